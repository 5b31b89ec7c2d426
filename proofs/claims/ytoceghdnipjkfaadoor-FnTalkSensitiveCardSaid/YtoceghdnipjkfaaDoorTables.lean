/-
  FnTalkTables: both sides hold one table, under the bound that was agreed.
-/
import Derived.Test.YtoceghdnipjkfaaDoorReads
namespace Go.Proofs.YtoceghdnipjkfaaDoor
open Go.RowKit
attribute [local irreducible] st

theorem talkFrom_at : ∀ (ps : List PartD) (T : Tab) (mx k : Nat) (q : PartD), ps[k]? = some q → (talkFrom T mx ps)[k]? = some (sayOne (stOf T mx (ps.take k)).1 (stOf T mx (ps.take k)).2 q)
  | [], _, _, k, q, h => by simp at h
  | p :: r, T, mx, 0, q, h => by
    simp at h; subst h; rfl
  | p :: r, T, mx, k + 1, q, h => by
    have := talkFrom_at r (sayOne T mx p).tab (sayOne T mx p).mx k q (by simpa using h)
    simpa [talkFrom, stOf] using this
theorem pcost_take_le (ps : List PartD) (k : Nat) : pcost (ps.take k) ≤ pcost ps := by
  have h := pcost_append (ps.take k) (ps.drop k)
  rw [List.take_append_drop] at h
  omega
/-- the bound behind the first k parts -/
noncomputable def mxAt (ps : List PartD) (k : Nat) : Nat := (stOf ⟨[], 0⟩ 4096 (ps.take k)).2
theorem mxAt_zero (ps : List PartD) : mxAt ps 0 = 4096 := rfl
/-- what is said of the k-th part -/
theorem talk_at {ps : List PartD} (h : AllOk ps) {k : Nat} {q : PartD} (hq : ps[k]? = some q) :
    ∃ s, (talk ps)[k]? = some s ∧ s.flds = q.flds ∧ s.mx = boundOf (mxAt ps k) q ∧ mxAt ps (k + 1) = s.mx ∧ TOk s.tab s.mx ∧ s.tab.ents.length ≤ 4000000 := by
  have hs := stOf_snoc (ps.take k) q ⟨[], 0⟩ 4096
  have ht : ps.take (k + 1) = ps.take k ++ [q] := by simp [List.take_add_one, hq]
  rw [← ht] at hs
  have hok := stOf_ok (ps.take (k + 1)) _ _ _ start_ok (by have := pcost_take_le ps (k + 1); have := h.all; omega)
  have hle := pcost_take_le ps (k + 1)
  have hall := h.all
  have hcnt := hok.cnt
  have htok := hok.ok
  refine ⟨_, talkFrom_at ps _ _ k q hq, rfl, rfl, ?_, ?_, ?_⟩
  · unfold mxAt; rw [hs]
  · rw [hs] at htok; exact htok
  · rw [hs] at hcnt; dsimp only at hcnt; omega
theorem bound_pos {mx : Nat} {q : PartD} (h : 0 ≤ q.size) : ((boundOf mx q : Nat) : Int) = min q.size 4096 := by
  unfold boundOf; rw [if_pos h]; omega
theorem bound_neg {mx : Nat} {q : PartD} (h : ¬ 0 ≤ q.size) : boundOf mx q = mx := by
  unfold boundOf; rw [if_neg h]

def TbRel (w : World) (ps : List PartD) (m a : Value) (wr : World) : Prop := ∃ k : Nat, k ≤ ps.length ∧ m = .int .i64 (mxAt ps k : Nat) ∧ a = .int .i64 (k : Nat) ∧ Kept [] w wr
set_option maxRecDepth 100000 in
set_option maxHeartbeats 4000000 in
theorem tables_any (v : Value) (ps : List PartD) (w : World) (hv : PartsAt w v ps) (hl : PsOk ps) (hg : Glob w) (he : ErrAt w) : Calls Tryd.prog 7 #[v] w (RetTrue w) := by
  have HV : Hid (∀ w', Kept [] w w' → PartsAt w' v ps) := fun w' k => hv.kept k
  have HL := Lib.hid hl; clear hl
  have HG := Lib.hid hg; clear hg
  have HE := Lib.hid he; clear he
  obtain ⟨p, c, rfl, hc⟩ := hv
  have HC := Lib.hid hc; clear hc
  go_enter Tryd.func7, Tryd.ntmps7
  go_wp2_with (first
    | (go_at_call 11; refine (fits1_any _ ps _ (HV.out _ (Kept.refl _ _)) HL.out).mono ?_; rintro e w1 ⟨b1, rfl, K1⟩)
    | (go_at_call 12; refine (few_any _ ps _ (HV.out _ K1) HL.out).mono ?_; rintro e w2 ⟨b2, rfl, K2, hall⟩; replace K2 := K1.trans K2; replace hall := Lib.hid hall)
    | (go_at_call 9; refine (talk_any _ ps _ (HV.out _ K2) (HG.out.kept K2 (by simp) (by simp)) (HE.out.kept K2 (by simp)) (hall.out (by simpa using ‹(!b2) = false›))).mono ?_; rintro e w3 ⟨v3, xs, rfl, K3, own3, S3⟩; obtain ⟨p3, c3, hv3, hA⟩ := saids_at own3 S3; rw [talk_len] at hv3; subst hv3; replace hA := Lib.hid hA; replace K3 := K2.trans K3; clear own3 S3))
  · go_ret
    exact ⟨rfl, K1⟩
  · go_ret
    exact ⟨rfl, K2⟩
  have hAll := Lib.hid (hall.out (by simpa using ‹(!b2) = false›))
  have hpl := hAll.out.len
  clear HL hall K1
  go_loopw [4, 22] (TbRel w3 ps) (fun _ i _ => ps.length - (intOf i).toNat)
  case atStart => exact ⟨0, Nat.zero_le _, rfl, rfl, Kept.refl _ _⟩
  case round =>
    obtain ⟨k, hk, rfl, rfl, K⟩ := hrel
    by_cases hlt : k < ps.length
    · have hget : ps[k]? = some ps[k] := List.getElem?_eq_getElem hlt
      generalize ps[k] = q at hget
      obtain ⟨s, hs1, hs2, hs3, hs4, hs5, hs6⟩ := talk_at hAll.out hget
      obtain ⟨b0, o0, fv, hp0, q0, q1, q2⟩ := HC.out _ _ hget
      obtain ⟨g, o, sbv, sfv, sev, sdv, hp1, A⟩ := hA.out k s hs1
      subst hp0; subst hp1
      have EA : Hid (∀ w', Kept [] w3 w' → FldsAt w' sev s.tab.ents.reverse) := fun w' k => A.e.kept k
      have EB : Hid (∀ w', Kept [] w3 w' → FldsAt w' sdv s.tab.ents.reverse) := fun w' k => A.d.kept k
      have hrl : Hid (s.tab.ents.reverse.length ≤ 4000000) := by rw [List.length_reverse]; exact hs6
      obtain ⟨fp, fcp, hfv, _⟩ := q2
      obtain ⟨gp, gcp, hgv, _⟩ := A.e
      obtain ⟨hp, hcp, hhv, _⟩ := A.d
      subst hfv; subst hgv; subst hhv
      have c3 := K.cell A.c3 (by simp)
      have c4 := K.cell A.c4 (by simp)
      have c5 := K.cell A.c5 (by simp)
      have c6 := K.cell A.c6 (by simp)
      have c7 := K.cell A.c7 (by simp)
      have c8 := K.cell A.c8 (by simp)
      replace q0 := (K3.trans K).cell q0 (by simp)
      replace q1 := (K3.trans K).cell q1 (by simp)
      have HS := Lib.hid hs1; clear hs1 A hs2
      have HS3 := Lib.hid hs3; clear hs3
      have HS4 := Lib.hid hs4; clear hs4
      clear hs5 hs6
      have t1 : (0 : Int) ≤ (k : Int) := by omega
      have t2 : (k : Int) < (ps.length : Int) := by omega
      have HGT := Lib.hid hget; clear hget
      generalize hR : s.tab.ents.reverse = R at EA EB hrl c3 c6
      have HR := Lib.hid hR; clear hR
      go_upto_region 12 with (fail)
      generalize hw4 : wr.alloc _ = w4
      obtain ⟨k4, Y4, hy4⟩ := box_cells (l := [.int .i64 q.size, .slice fp q.flds.length fcp]) hw4
      generalize hxe : wr.heap.size = xb at Y4 hy4 ⊢
      have HW4 := Lib.hid hw4; clear hw4
      have HX := Lib.hid hxe; clear hxe
      replace c3 := k4.cell c3 (by simp)
      replace c4 := k4.cell c4 (by simp)
      replace c5 := k4.cell c5 (by simp)
      replace c6 := k4.cell c6 (by simp)
      replace c7 := k4.cell c7 (by simp)
      replace c8 := k4.cell c8 (by simp)
      clear q1 q0
      have y0 := Y4.cell 0 rfl
      have y1 := Y4.cell 1 rfl
      by_cases hz : 0 ≤ q.size
      · have e1 : decide ((0 : Int) ≤ q.size) = true := decide_eq_true hz
        have hb := bound_pos (mx := mxAt ps k) hz
        rw [← HS3.out] at hb
        go_upto_region 14 with (fail)
        rw [← hb]
        go_quiet ((go_at_call 10; exact Calls.quiet_of (equal_any _ _ R _ ((EA.out _ (K.trans k4)).drewN _) ((EB.out _ (K.trans k4)).drewN _) hrl.out)))
        go_wp2_with fail
        exact ⟨⟨k + 1, by omega, by rw [HS4.out], by go_num, (K.trans k4).drewN _⟩, by simp [intOf]; omega⟩
      · have e1 : decide ((0 : Int) ≤ q.size) = false := decide_eq_false hz
        have hb : mxAt ps k = s.mx := by rw [HS3.out, bound_neg hz]
        rw [hb]
        go_upto_region 14 with (fail)
        go_quiet ((go_at_call 10; exact Calls.quiet_of (equal_any _ _ R _ ((EA.out _ (K.trans k4)).drewN _) ((EB.out _ (K.trans k4)).drewN _) hrl.out)))
        go_wp2_with fail
        exact ⟨⟨k + 1, by omega, by rw [HS4.out], by go_num, (K.trans k4).drewN _⟩, by simp [intOf]; omega⟩
    · go_wp2_with ((go_at_call 9; refine (talk_last wr (HG.out.kept (K3.trans K) (by simp) (by simp)) (HE.out.kept (K3.trans K) (by simp))).mono ?_; rintro e w5 ⟨p5, c5, rfl, K5⟩))
      go_ret
      exact ⟨rfl, (K3.trans K).trans K5⟩
end Go.Proofs.YtoceghdnipjkfaaDoor
