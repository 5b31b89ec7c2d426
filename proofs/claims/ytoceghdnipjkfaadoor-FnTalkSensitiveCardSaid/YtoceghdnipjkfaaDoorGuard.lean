/-
  The guards of the laws: zzFits1..3, few.
-/
import Derived.Test.YtoceghdnipjkfaaDoorSmall
namespace Go.Proofs.YtoceghdnipjkfaaDoor
open Go.RowKit
attribute [local irreducible] st

/-- what the model holds of a list of fields, of a list of parts -/
def FOk (l : List Fld) : Prop := l.length ≤ 9223372036854775807 ∧ ∀ f ∈ l, f.name.size ≤ 9223372036854775807 ∧ f.value.size ≤ 9223372036854775807
structure PsOk (ps : List PartD) : Prop where
  len : ps.length ≤ 9223372036854775807
  sz : ∀ p ∈ ps, -9223372036854775808 ≤ p.size ∧ p.size ≤ 9223372036854775807
  f : ∀ p ∈ ps, FOk p.flds

def F3Rel (w : World) (l : List Fld) (a : Value) (wr : World) : Prop := ∃ k : Nat, k ≤ l.length ∧ a = .int .i64 (k : Nat) ∧ Kept [] w wr
set_option maxRecDepth 100000 in
set_option maxHeartbeats 1000000 in
theorem fits3_any (v : Value) (l : List Fld) (w : World) (hv : FldsAt w v l) (hl : FOk l) : Calls Tryd.prog 42 #[v] w (SomeBool w) := by
  obtain ⟨p, c, rfl, hc⟩ := hv
  obtain ⟨hn, hm⟩ := hl
  by_cases g1 : 2147483647 < l.length
  · have b1 : decide ((2147483647 : Int) < (l.length : Int)) = true := by simp; omega
    go_enter Tryd.func42, Tryd.ntmps42
    go_wp2_with fail
    go_ret
    exact ⟨_, rfl, Kept.refl _ _⟩
  · have b1 : decide ((2147483647 : Int) < (l.length : Int)) = false := by simp; omega
    have HC := Lib.hid hc; clear hc
    have HM := Lib.hid hm; clear hm
    go_enter Tryd.func42, Tryd.ntmps42
    go_wp2_with fail
    clear b1
    go_loopw [10] (F3Rel w l) (fun i _ => l.length - (intOf i).toNat)
    case atStart => exact ⟨0, Nat.zero_le _, rfl, Kept.refl _ _⟩
    case round =>
      obtain ⟨k, hk, rfl, K⟩ := hrel
      by_cases hlt : k < l.length
      · have hget : l[k]? = some l[k] := List.getElem?_eq_getElem hlt
        have hmem : l[k] ∈ l := List.getElem_mem hlt
        generalize l[k] = f at hget hmem
        obtain ⟨h1, h2⟩ := HM.out f hmem
        obtain ⟨b1, o1, hp1, q0, q1, q2⟩ := HC.out _ _ hget
        subst hp1
        replace q0 := K.cell q0 (by simp)
        replace q1 := K.cell q1 (by simp)
        replace q2 := K.cell q2 (by simp)
        have t1 : (0 : Int) ≤ (k : Int) := by omega
        have t2 : (k : Int) < (l.length : Int) := by omega
        have HG := Lib.hid hget; clear hget
        clear hmem
        go_wp2_with ((go_at_call 8; refine (fits4_any f _ h1 h2).mono ?_; rintro e w2 ⟨bb, rfl, K2⟩))
        · go_ret
          exact ⟨_, rfl, (K.alloc _).trans K2⟩
        · exact ⟨⟨k + 1, by omega, by go_num, (K.alloc _).trans K2⟩, by simp [intOf]; omega⟩
      · go_wp2_with fail
        go_ret
        exact ⟨_, rfl, K⟩

set_option maxRecDepth 100000 in
set_option maxHeartbeats 1000000 in
theorem fits2_any (sz : Int) (v : Value) (l : List Fld) (w : World) (hv : FldsAt w v l) (hl : FOk l) : Calls Tryd.prog 25 #[.agg #[.int .i64 sz, v]] w (SomeBool w) := by
  obtain ⟨p, c, e, hc⟩ := hv
  have HV : Hid (∀ w', Kept [] w w' → FldsAt w' v l) := Lib.hid fun w' k => FldsAt.kept ⟨p, c, e, hc⟩ k
  subst e
  clear hc
  have HL := Lib.hid hl; clear hl
  go_enter Tryd.func25, Tryd.ntmps25
  go_wp2_with ((go_at_call 42; refine (fits3_any _ l _ (HV.out _ ((Kept.refl _ _).alloc _)) HL.out).mono ?_; rintro e w2 ⟨bb, rfl, K2⟩))
  all_goals go_ret
  all_goals exact ⟨_, rfl, ((Kept.refl _ _).alloc _).trans K2⟩

def F1Rel (w : World) (l : List PartD) (a : Value) (wr : World) : Prop := ∃ k : Nat, k ≤ l.length ∧ a = .int .i64 (k : Nat) ∧ Kept [] w wr
set_option maxRecDepth 100000 in
set_option maxHeartbeats 1000000 in
theorem fits1_any (v : Value) (l : List PartD) (w : World) (hv : PartsAt w v l) (hl : PsOk l) : Calls Tryd.prog 11 #[v] w (SomeBool w) := by
  obtain ⟨p, c, rfl, hc⟩ := hv
  obtain ⟨hn, _, hm⟩ := hl
  by_cases g1 : 2147483647 < l.length
  · have b1 : decide ((2147483647 : Int) < (l.length : Int)) = true := by simp; omega
    go_enter Tryd.func11, Tryd.ntmps11
    go_wp2_with fail
    go_ret
    exact ⟨_, rfl, Kept.refl _ _⟩
  · have b1 : decide ((2147483647 : Int) < (l.length : Int)) = false := by simp; omega
    have HC := Lib.hid hc; clear hc
    have HM := Lib.hid hm; clear hm
    go_enter Tryd.func11, Tryd.ntmps11
    go_wp2_with fail
    clear b1
    go_loopw [10] (F1Rel w l) (fun i _ => l.length - (intOf i).toNat)
    case atStart => exact ⟨0, Nat.zero_le _, rfl, Kept.refl _ _⟩
    case round =>
      obtain ⟨k, hk, rfl, K⟩ := hrel
      by_cases hlt : k < l.length
      · have hget : l[k]? = some l[k] := List.getElem?_eq_getElem hlt
        have hmem : l[k] ∈ l := List.getElem_mem hlt
        generalize l[k] = q at hget hmem
        have hfo := Lib.hid (HM.out q hmem)
        obtain ⟨b1, o1, fv, hp1, q0, q1, q2⟩ := HC.out _ _ hget
        obtain ⟨fp, fcp, hfv, _⟩ := id q2
        subst hfv
        have hq2 := Lib.hid q2; clear q2
        subst hp1
        replace q0 := K.cell q0 (by simp)
        replace q1 := K.cell q1 (by simp)
        have t1 : (0 : Int) ≤ (k : Int) := by omega
        have t2 : (k : Int) < (l.length : Int) := by omega
        have HG := Lib.hid hget; clear hget
        clear hmem
        go_wp2_with ((go_at_call 25; refine (fits2_any _ _ q.flds _ (hq2.out.kept (K.alloc _)) hfo.out).mono ?_; rintro e w2 ⟨bb, rfl, K2⟩))
        · go_ret
          exact ⟨_, rfl, (K.alloc _).trans K2⟩
        · exact ⟨⟨k + 1, by omega, by go_num, (K.alloc _).trans K2⟩, by simp [intOf]; omega⟩
      · go_wp2_with fail
        go_ret
        exact ⟨_, rfl, K⟩
end Go.Proofs.YtoceghdnipjkfaaDoor
