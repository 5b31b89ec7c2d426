/-
  The small functions of the laws: zzFits4, equal.
-/
import Derived.Test.YtoceghdnipjkfaaDoorTrep
namespace Go.Proofs.YtoceghdnipjkfaaDoor
open Go.RowKit
attribute [local irreducible] st

set_option maxRecDepth 100000 in
set_option maxHeartbeats 1000000 in
theorem fits4_yes (f : Fld) (w : World) (h1 : f.name.size ≤ 2147483647) (h2 : f.value.size ≤ 2147483647) :
    Calls Tryd.prog 8 #[.agg #[.string f.name, .string f.value, .bool f.sens]] w fun e w' => e = .returned (.bool true) ∧ Kept [] w w' := by
  have b1 : decide ((2147483647 : Int) < (f.name.size : Int)) = false := by simp; omega
  have b2 : decide ((2147483647 : Int) < (f.value.size : Int)) = false := by simp; omega
  go_enter Tryd.func8, Tryd.ntmps8
  go_wp2_with fail
  go_ret
  exact ⟨rfl, (Kept.refl _ _).alloc _⟩
def SomeBool (w : World) (e : Ending) (w' : World) : Prop := ∃ b, e = .returned (.bool b) ∧ Kept [] w w'
set_option maxRecDepth 100000 in
set_option maxHeartbeats 1000000 in
theorem fits4_any (f : Fld) (w : World) (h1 : f.name.size ≤ 9223372036854775807) (h2 : f.value.size ≤ 9223372036854775807) :
    Calls Tryd.prog 8 #[.agg #[.string f.name, .string f.value, .bool f.sens]] w (SomeBool w) := by
  by_cases g1 : 2147483647 < f.name.size
  · have b1 : decide ((2147483647 : Int) < (f.name.size : Int)) = true := by simp; omega
    go_enter Tryd.func8, Tryd.ntmps8
    go_wp2_with fail
    go_ret
    exact ⟨_, rfl, (Kept.refl _ _).alloc _⟩
  · by_cases g2 : 2147483647 < f.value.size
    · have b1 : decide ((2147483647 : Int) < (f.name.size : Int)) = false := by simp; omega
      have b2 : decide ((2147483647 : Int) < (f.value.size : Int)) = true := by simp; omega
      go_enter Tryd.func8, Tryd.ntmps8
      go_wp2_with fail
      go_ret
      exact ⟨_, rfl, (Kept.refl _ _).alloc _⟩
    · exact (fits4_yes f w (by omega) (by omega)).mono fun e w' ⟨a, b⟩ => ⟨true, a, b⟩

theorem FldsAt.drewN {w : World} {v : Value} {l : List Fld} (h : FldsAt w v l) (n : Nat) : FldsAt (w.drewN n) v l := h.kept ((Kept.refl [] w).drewN n)
theorem FldsAt.ofRow {w : World} {v : Value} {l : List Fld} (h : w.ownsRow 0 23 3 v l.length (l.flatMap fc)) : FldsAt w v l := by
  obtain ⟨p, c, hv, _⟩ := ownsRow_slice h
  subst hv
  refine ⟨p, c, rfl, fun j f hj => ?_⟩
  have hl : 0 < l.length := Nat.lt_of_le_of_lt (Nat.zero_le j) (List.getElem?_eq_some_iff.1 hj).1
  obtain ⟨g, rfl⟩ : ∃ g, p = some ⟨g, 0, none⟩ := by
    rcases h.2 with ⟨h0, h1⟩ | ⟨g, cap', cur, h0, _⟩
    · omega
    · simp at h0; exact ⟨g, h0.1⟩
  obtain ⟨d0, d1, d2⟩ := fld_cells h j f hj
  exact ⟨g, 0, rfl, by rw [Nat.zero_add]; exact d0, by rw [Nat.zero_add]; exact d1, by rw [Nat.zero_add]; exact d2⟩
def EqRel (w : World) (l : List Fld) (a : Value) (wr : World) : Prop := ∃ (k nd : Nat), k ≤ l.length ∧ a = .int .i64 (k : Nat) ∧ wr = w.drewN nd
def EqRet (w : World) (e : Ending) (w' : World) : Prop := e = .returned (.bool true) ∧ ∃ n, w' = w.drewN n
set_option maxRecDepth 100000 in
set_option maxHeartbeats 1000000 in
theorem equal_any (a b : Value) (l : List Fld) (w : World) (ha : FldsAt w a l) (hb : FldsAt w b l) (hl : l.length ≤ 4000000) : Calls Tryd.prog 10 #[a, b] w (EqRet w) := by
  obtain ⟨p, c, rfl, ha⟩ := ha
  obtain ⟨p', c', rfl, hb⟩ := hb
  have HA := Lib.hid ha; clear ha
  have HB := Lib.hid hb; clear hb
  go_enter Tryd.func10, Tryd.ntmps10
  go_wp2_with fail
  go_loopw [13] (EqRel w l) (fun i _ => l.length - (intOf i).toNat)
  case atStart => exact ⟨0, 0, Nat.zero_le _, rfl, rfl⟩
  case round =>
    obtain ⟨k, nd, hk, rfl, rfl⟩ := hrel
    by_cases hlt : k < l.length
    · have hget : l[k]? = some l[k] := List.getElem?_eq_getElem hlt
      generalize l[k] = f at hget
      obtain ⟨b1, o1, hp1, q0, q1, q2⟩ := HA.out _ _ hget
      obtain ⟨b2, o2, hp2, r0, r1, r2⟩ := HB.out _ _ hget
      subst hp1; subst hp2
      have t1 : (0 : Int) ≤ (k : Int) := by omega
      have t2 : (k : Int) < (l.length : Int) := by omega
      have HG := Lib.hid hget; clear hget
      go_wp2_with fail
      go_quiet (fail)
      go_wp2_with fail
      refine ⟨⟨k + 1, nd + nq, by omega, by go_num, rfl⟩, by simp [intOf]; omega⟩
    · go_wp2_with fail
      go_ret
      exact ⟨rfl, nd, rfl⟩
end Go.Proofs.YtoceghdnipjkfaaDoor
