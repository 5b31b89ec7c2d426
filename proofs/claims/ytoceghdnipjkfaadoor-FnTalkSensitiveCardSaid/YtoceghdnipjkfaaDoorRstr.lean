/-
  readString cuts out a string that was written.
-/
import Derived.Test.YtoceghdnipjkfaaDoorStr
namespace Go.Proofs.YtoceghdnipjkfaaDoor
open Go.RowKit

/-- the three results, the first of which lies in a box -/
theorem results_cell_tmp2 {fn : Func} {p u v : Tmp} {ty : TypeId} (h : fn.results = #[.cell p ty, .tmp u, .tmp v]) (tmps : Array Value) (P : Program) (w : World) :
    (results fn tmps).run P w =
      ((asAddr (tmps.getD p undef)).run P w).andThen fun a w₁ => ((loadVar ty a).run P w₁).andThen fun x w₂ => .ok (.tuple #[x, tmps.getD u undef, tmps.getD v undef]) w₂ := by
  simp only [results, h]
  simp [Sem.run_bind, Result.andThen]
theorem rs_ret {R : Ending → World → Prop} {a : Act} {w : World} {xb : Nat} {h : Bool} {bv v5 : Value} (B : Blk w xb [.bool h, bv] 125) (h4 : a.tmps.getD 4 undef = .pointer (some ⟨xb, 0, none⟩)) (h5 : a.tmps.getD 5 undef = v5) (h6 : a.tmps.getD 6 undef = .nilIface) (hd : a.defers = [])
    (hR : R (.returned (.tuple #[.agg #[.bool h, bv], v5, .nilIface])) w) : bodyPost Tryd.prog Tryd.f66 R .ret a w := by
  refine bodyPost_ret (v := .tuple #[.agg #[.bool h, bv], v5, .nilIface]) ?_ hd hR
  rw [results_cell_tmp2 (p := 4) (u := 5) (v := 6) (ty := 125) rfl, h4, h5, h6]
  have hl := run_loadVar_row (P := Tryd.prog) w xb 125 125 #[.bool h, bv] (0, 0) _ (show w.heap[xb]? = some (.cells #[.bool h, bv] 125 (0, 0)) from B) Tryd.underlying125 rfl (by kernel_rfl)
  show (Result.ok (⟨xb, 0, none⟩ : Addr) w).andThen _ = _
  simp only [Result.andThen_ok, hl]

/-- the window of just the bytes, and what is behind it -/
def StrCut (w : World) (g : Nat) (h : Bool) (body rest : List UInt8) (e : Ending) (w' : World) : Prop :=
  ∃ bv rv, e = .returned (.tuple #[.agg #[.bool h, bv], rv, .nilIface]) ∧ RdV w' g bv body ∧ RdV w' g rv rest ∧ Kept [] w w'

def StrRead (w : World) (g : Nat) (s : ByteArray) (rest : List UInt8) (e : Ending) (w' : World) : Prop :=
  ∃ h bv rv, e = .returned (.tuple #[.agg #[.bool h, bv], rv, .nilIface]) ∧ UStr w' g s h bv ∧ RdV w' g rv rest ∧ Kept [] w w'

set_option maxRecDepth 100000 in
set_option maxHeartbeats 2000000 in
theorem cut_gen (d g fst : Nat) (bo : Bool) (p : Value) (body rest : List UInt8) (w : World) (hf : fst = if bo = true then 128 else 0) (hb : body.length ≤ 4000000) (hr : RdV w g p (orF fst (vi 7 body.length) ++ (body ++ rest))) (c10 : w.cell? ⟨d, 10, none⟩ = some (.int .i64 0)) (hrl : rest.length ≤ 8589934592) :
    Calls Tryd.prog 66 #[.pointer (some ⟨d, 0, none⟩), p] w (StrCut w g bo body rest) := by
  have hd : d < w.heap.size := World.block_lt_of_cell? w _ c10
  have hr0 := hr
  obtain ⟨off, cap, rfl, hle, hm, hrd⟩ := hr
  obtain ⟨x, xs, hvi, hx⟩ := vi_cons 7 body.length
  have hx := hx (by omega)
  have hor : orF fst (vi 7 body.length) = b8 (x.toNat + fst) :: xs := by rw [hvi]; rfl
  have hfst : fst ≤ 128 := by rw [hf]; split <;> omega
  have c0 : w.cell? ⟨g, off, none⟩ = some (.int .u8 (x.toNat + fst : Nat)) := by
    rw [hor] at hrd
    have := hrd.head
    rw [b8_int (by omega)] at this
    exact this
  have hgl : g < w.heap.size := World.block_lt_of_cell? w _ c0
  have hln : 0 < (orF fst (vi 7 body.length) ++ (body ++ rest)).length := by rw [hor]; simp
  generalize hN : (orF fst (vi 7 body.length) ++ (body ++ rest)).length = N at hle hln
  have hr0' : RdV w g (.slice (some ⟨g, off, none⟩) N cap) (orF fst (vi 7 body.length) ++ (body ++ rest)) := by rw [← hN]; exact ⟨off, cap, rfl, by rw [hN]; exact hle, hm, hrd⟩
  have b0 : ((N : Int) == 0) = false := by simp; omega
  obtain ⟨fb, hfb⟩ : ∃ fb, x.toNat + fst = fb := ⟨_, rfl⟩
  rw [hfb] at c0
  have hand : bits .and .u8 (fb : Int) 128 = (if bo = true then 128 else 0 : Int) := by
    have hx' : x.toNat < 128 := hx
    have : ∀ y : Nat, y < 128 → bits .and .u8 (y : Int) 128 = 0 ∧ bits .and .u8 ((y + 128 : Nat) : Int) 128 = 128 := by
      intro y hy
      have : ((List.range 128).all fun y => decide (bits .and .u8 (y : Int) 128 = 0 ∧ bits .and .u8 ((y + 128 : Nat) : Int) 128 = 128)) = true := by decide +kernel
      exact of_decide_eq_true (List.all_eq_true.1 this y (List.mem_range.2 hy))
    rw [← hfb, hf]
    cases bo
    · exact (this _ hx').1
    · exact (this _ hx').2
  have hne : (bits .and .u8 (fb : Int) 128 != 0) = bo := by rw [hand]; cases bo <;> rfl
  clear hand
  have HF1 := Lib.hid (show fst % 2 ^ 7 = 0 by rw [hf]; split <;> rfl)
  have HF2 := Lib.hid (show fst + 2 ^ 7 ≤ 256 by omega)
  obtain ⟨n, hn⟩ : ∃ n, body.length = n := ⟨_, rfl⟩
  have HNN := Lib.hid hN; clear hN
  have HM := Lib.hid hm; clear hm
  have HFB := Lib.hid hfb; clear hfb
  have HOR := Lib.hid hor; clear hor
  have HVI := Lib.hid hvi; clear hvi
  have HR0 := Lib.hid hr0; clear hr0
  have HRD := Lib.hid hrd; clear hrd
  rw [hn] at hr0' hb
  have HN := Lib.hid hn; clear hn
  have HF := Lib.hid hf; clear hf
  go_enter Tryd.func66, Tryd.ntmps66
  go_upto_region 3 with (fail)
  generalize hw1 : w.alloc _ = w1
  obtain ⟨k1, X1, hx1⟩ := box_cells (l := [.bool false, .slice none 0 0]) hw1
  have c0 := k1.cell c0 (by simp)
  have c10 := k1.cell c10 (by simp)
  have r1 := hr0'.kept k1 (by simp)
  generalize hxe : w.heap.size = xb at X1 hx1 hd hgl ⊢
  have HW := Lib.hid hw1; clear hw1
  have HX := Lib.hid hxe; clear hxe
  have hb7 : n < 4294967296 := by omega
  go_upto_region 4 with (fail)
  go_upto_region 7 with ((go_at_call 62; refine (read_any 7 fst n g _ (body ++ rest) _ (.inr (.inr (.inr rfl))) HF1.out HF2.out hb7 r1).mono ?_; rintro e w2 ⟨v2, rfl, r2, K2⟩; obtain ⟨off2, cap2, hv2, hle2, hm2, hrd2⟩ := r2; generalize hm3 : (body ++ rest).length = m at hv2 hle2; subst hv2; have HM3 := Lib.hid hm3; clear hm3))
  have c10 := K2.cell c10 (by simp)
  have X2 := X1.kept K2 (by simp)
  have hlr : m = n + rest.length := by rw [← HM3.out, List.length_append, HN.out]
  have hnm : n ≤ m := by omega
  have hmm : m ≤ 8593934592 := by omega
  have bl1 : decide ((m : Int) < (n : Int)) = false := by simp; omega
  have f0 := X2.frozen 0
  have x0 := X2.cell 0 rfl
  have x1 := X2.cell 1 rfl
  have HM2 := Lib.hid hm2; clear hm2
  have HLR := Lib.hid hlr; clear hlr
  have f1 := X2.frozen 1
  clear hle
  go_upto_region 13 with (fail)
  have X3 := (X2.set 0 (.bool bo)).set 1 (.slice (some ⟨g, off2, none⟩) n cap2)
  have hgx : ¬ g = xb := by intro e; have := HX.out; omega
  have k3 : Kept [xb] w2 ((w2.setCell ⟨xb, 0, none⟩ (.bool bo)).setCell ⟨xb, 1, none⟩ (.slice (some ⟨g, off2, none⟩) n cap2)) := ((Kept.refl [xb] w2).setCell (by simp) _).setCell (by simp) _
  have hr3 := hrd2.kept k3 (by simpa using hgx)
  generalize hw3 : World.setCell (w2.setCell _ _) _ _ = w3 at X3 k3 hr3 ⊢
  have HW3 := Lib.hid hw3; clear hw3
  have X3 : Blk w3 xb [.bool bo, .slice (some ⟨g, off2, none⟩) n cap2] 125 := X3
  clear x0 x1 f0 f1
  have x0 := X3.cell 0 rfl
  have x1 := X3.cell 1 rfl
  have f0 := X3.frozen 0
  have f1 := X3.frozen 1
  have hnn : (n : Int) ≤ (m : Int) := by omega
  have hkall : ∀ W, Kept [xb] w3 W → Kept [] w W := by
    intro W hW
    have hx := HX.out
    exact (((k1.trans K2).step k3 (by intro q hq; right; simp at hq; omega)).step hW (by intro q hq; right; simp at hq; omega))
  have HK := Lib.hid hkall; clear hkall
  by_cases hnc : n = cap2
  · subst hnc
    have hmn : m = n := by omega
    subst hmn
    have hre : rest = [] := List.eq_nil_of_length_eq_zero (by have := HLR.out; omega)
    go_region_with (fail)
    all_goals
      go_wp2_with fail
      refine rs_ret (((X3.set 0 (.bool bo)).set 1 (.slice (some ⟨g, off2, none⟩) m m)).drew) rfl rfl rfl rfl ?_
      have hw : Kept [xb] w3 ((w3.setCell ⟨xb, 0, none⟩ (.bool bo)).setCell ⟨xb, 1, none⟩ (.slice (some ⟨g, off2, none⟩) m m)).drew := (((Kept.refl [xb] w3).setCell (by simp) _).setCell (by simp) _).drew
      have hr4 := hr3.kept hw (by simpa using hgx)
      refine ⟨_, _, rfl, ⟨off2, m, by rw [HN.out], by rw [HN.out]; exact Nat.le_refl _, HM2.out, hr4.left⟩, ?_, HK.out _ hw⟩
      subst hre
      exact ⟨off2, 0, rfl, Nat.le_refl _, by unfold maxLen; omega, fun k b hb => by cases hb⟩
  · go_region_with (fail)
    all_goals
      go_wp2_with fail
      refine rs_ret (((X3.set 0 (.bool bo)).set 1 (.slice (some ⟨g, off2, none⟩) n cap2)).drew) rfl rfl rfl rfl ?_
      have hw : Kept [xb] w3 ((w3.setCell ⟨xb, 0, none⟩ (.bool bo)).setCell ⟨xb, 1, none⟩ (.slice (some ⟨g, off2, none⟩) n cap2)).drew := (((Kept.refl [xb] w3).setCell (by simp) _).setCell (by simp) _).drew
      have hr4 := hr3.kept hw (by simpa using hgx)
      have hr5 := hr4.app
      rw [HN.out] at hr5
      refine ⟨_, _, rfl, ⟨off2, cap2, by rw [HN.out], by rw [HN.out]; omega, HM2.out, hr4.left⟩, ⟨off2 + n, cap2 - n, ?_, ?_, ?_, hr5⟩, HK.out _ hw⟩
      · rw [show rest.length = m - n from by have := HLR.out; omega]; rfl
      · have := HLR.out; omega
      · have := HM2.out; omega
theorem read_str (d g : Nat) (p : Value) (s : ByteArray) (rest : List UInt8) (w : World) (hs : s.size ≤ 4000000) (hr : RdV w g p (encStr s ++ rest)) (c10 : w.cell? ⟨d, 10, none⟩ = some (.int .i64 0)) (hrl : rest.length ≤ 8589934592) :
    Calls Tryd.prog 66 #[.pointer (some ⟨d, 0, none⟩), p] w (StrRead w g s rest) := by
  have hsb := bl_len s
  unfold encStr at hr
  by_cases h : (hN (bl s) + 7) / 8 < s.size
  · rw [if_pos h, List.append_assoc] at hr
    have hl := huff_len s
    rw [← hl] at hr
    refine (cut_gen d g 128 true p (huff s) rest w rfl (by omega) hr c10 hrl).mono ?_
    rintro e w' ⟨bv, rv, rfl, h1, h2, h3⟩
    exact ⟨true, bv, rv, rfl, by unfold UStr; rw [if_pos rfl]; exact h1, h2, h3⟩
  · rw [if_neg h, List.append_assoc, ← hsb] at hr
    refine (cut_gen d g 0 false p (bl s) rest w rfl (by omega) (by rw [orF_zero]; exact hr) c10 hrl).mono ?_
    rintro e w' ⟨bv, rv, rfl, h1, h2, h3⟩
    exact ⟨false, bv, rv, rfl, by unfold UStr; rw [if_neg (by simp)]; exact h1, h2, h3⟩
end Go.Proofs.YtoceghdnipjkfaaDoor
