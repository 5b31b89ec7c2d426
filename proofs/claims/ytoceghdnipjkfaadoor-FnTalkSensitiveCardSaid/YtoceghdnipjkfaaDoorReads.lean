/-
  FnTalkReads: what was sent is heard.
-/
import Derived.Test.YtoceghdnipjkfaaDoorAns
import Derived.Test.YtoceghdnipjkfaaDoorFew
namespace Go.Proofs.YtoceghdnipjkfaaDoor
open Go.RowKit
attribute [local irreducible] st

theorem talkFrom_get : ∀ (ps : List PartD) (T : Tab) (mx k : Nat) (q : PartD), ps[k]? = some q → ∃ s, (talkFrom T mx ps)[k]? = some s ∧ s.flds = q.flds
  | [], _, _, k, q, h => by simp at h
  | p :: r, T, mx, 0, q, h => by
    simp at h; subst h
    exact ⟨_, rfl, rfl⟩
  | p :: r, T, mx, k + 1, q, h => by
    obtain ⟨s, h1, h2⟩ := talkFrom_get r (sayOne T mx p).tab (sayOne T mx p).mx k q (by simpa using h)
    exact ⟨s, by simpa [talkFrom] using h1, h2⟩
theorem flds_small {ps : List PartD} {q : PartD} (h : AllOk ps) (hm : q ∈ ps) : q.flds.length ≤ 4000000 := by
  have h1 := fcost_len q.flds
  have h2 : fcost q.flds ≤ pcost ps := by
    obtain ⟨a, b, rfl⟩ := List.append_of_mem hm
    rw [pcost_append]
    simp [pcost]; omega
  have h3 := h.all
  omega

def RdRel (w : World) (ps : List PartD) (a : Value) (wr : World) : Prop := ∃ k : Nat, k ≤ ps.length ∧ a = .int .i64 (k : Nat) ∧ Kept [] w wr
set_option maxRecDepth 100000 in
set_option maxHeartbeats 4000000 in
theorem reads_any (v : Value) (ps : List PartD) (w : World) (hv : PartsAt w v ps) (hl : PsOk ps) (hg : Glob w) (he : ErrAt w) : Calls Tryd.prog 5 #[v] w (RetTrue w) := by
  have HV : Hid (∀ w', Kept [] w w' → PartsAt w' v ps) := fun w' k => hv.kept k
  have HL := Lib.hid hl; clear hl
  have HG := Lib.hid hg; clear hg
  have HE := Lib.hid he; clear he
  obtain ⟨p, c, rfl, hc⟩ := hv
  have HC := Lib.hid hc; clear hc
  go_enter Tryd.func5, Tryd.ntmps5
  go_wp2_with (first
    | (go_at_call 11; refine (fits1_any _ ps _ (HV.out _ (Kept.refl _ _)) HL.out).mono ?_; rintro e w1 ⟨b1, rfl, K1⟩)
    | (go_at_call 12; refine (few_any _ ps _ (HV.out _ K1) HL.out).mono ?_; rintro e w2 ⟨b2, rfl, K2, hall⟩; replace K2 := K1.trans K2; replace hall := Lib.hid hall)
    | (go_at_call 9; refine (talk_any _ ps _ (HV.out _ K2) (HG.out.kept K2 (by simp) (by simp)) (HE.out.kept K2 (by simp)) (hall.out (by simpa using ‹(!b2) = false›))).mono ?_; rintro e w3 ⟨v3, xs, rfl, K3, own3, S3⟩; obtain ⟨p3, c3, hv3, hA⟩ := saids_at own3 S3; rw [talk_len] at hv3; subst hv3; replace hA := Lib.hid hA; replace K3 := K2.trans K3; clear own3 S3))
  · go_ret
    exact ⟨rfl, K1⟩
  · go_ret
    exact ⟨rfl, K2⟩
  have hAll := Lib.hid (hall.out (by simpa using ‹(!b2) = false›))
  have hpl := hAll.out.len
  clear HL hall K1
  go_loopw [21] (RdRel w3 ps) (fun i _ => ps.length - (intOf i).toNat)
  case atStart => exact ⟨0, Nat.zero_le _, rfl, Kept.refl _ _⟩
  case round =>
    obtain ⟨k, hk, rfl, K⟩ := hrel
    by_cases hlt : k < ps.length
    · have hget : ps[k]? = some ps[k] := List.getElem?_eq_getElem hlt
      have hmem : ps[k] ∈ ps := List.getElem_mem hlt
      generalize ps[k] = q at hget hmem
      obtain ⟨s, hs1, hs2⟩ := talkFrom_get ps ⟨[], 0⟩ 4096 k q hget
      have hrl := Lib.hid (flds_small hAll.out hmem)
      obtain ⟨b0, o0, fv, hp0, q0, q1, q2⟩ := HC.out _ _ hget
      obtain ⟨g, o, sbv, sfv, sev, sdv, hp1, A⟩ := hA.out k s hs1
      subst hp0; subst hp1
      have EA : Hid (∀ w', Kept [] w3 w' → FldsAt w' sfv q.flds) := fun w' k => by rw [← hs2]; exact A.f.kept k
      have EB : Hid (∀ w', Kept [] w w' → FldsAt w' fv q.flds) := fun w' k => q2.kept k
      obtain ⟨fp, fcp, hfv, _⟩ := q2
      obtain ⟨gp, gcp, hgv, _⟩ := A.f
      subst hfv; subst hgv
      have c1 := K.cell A.c1 (by simp)
      have c2 := K.cell A.c2 (by simp)
      replace q0 := (K3.trans K).cell q0 (by simp)
      replace q1 := (K3.trans K).cell q1 (by simp)
      have HS := Lib.hid hs1; clear hs1 A
      have HS2 := Lib.hid hs2; clear hs2
      have t1 : (0 : Int) ≤ (k : Int) := by omega
      have t2 : (k : Int) < (ps.length : Int) := by omega
      have HGT := Lib.hid hget; clear hget hmem
      go_upto_region 11 with (fail)
      generalize hw4 : wr.alloc _ = w4
      obtain ⟨k4, Y4, hy4⟩ := box_cells (l := [.int .i64 q.size, .slice fp q.flds.length fcp]) hw4
      generalize hxe : wr.heap.size = xb at Y4 hy4 ⊢
      have HW4 := Lib.hid hw4; clear hw4
      have HX := Lib.hid hxe; clear hxe
      replace c1 := k4.cell c1 (by simp)
      replace c2 := k4.cell c2 (by simp)
      clear q0 q1
      have q0 := Y4.cell 0 rfl
      have q1 := Y4.cell 1 rfl
      go_quiet ((go_at_call 10; exact Calls.quiet_of (equal_any _ _ q.flds _ ((EA.out _ (K.trans k4)).drewN _) ((EB.out _ ((K3.trans K).trans k4)).drewN _) hrl.out)))
      go_wp2_with fail
      exact ⟨⟨k + 1, by omega, by go_num, (K.trans k4).drewN _⟩, by simp [intOf]; omega⟩
    · go_wp2_with ((go_at_call 9; refine (talk_last wr (HG.out.kept (K3.trans K) (by simp) (by simp)) (HE.out.kept (K3.trans K) (by simp))).mono ?_; rintro e w5 ⟨p5, c5, rfl, K5⟩))
      go_ret
      exact ⟨rfl, (K3.trans K).trans K5⟩
end Go.Proofs.YtoceghdnipjkfaaDoor
