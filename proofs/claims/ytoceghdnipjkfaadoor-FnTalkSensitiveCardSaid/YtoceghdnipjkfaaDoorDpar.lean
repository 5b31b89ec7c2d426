/-
  The decoder's steps: an indexed field, a change of size.
-/
import Derived.Test.YtoceghdnipjkfaaDoorDrep
import Derived.Test.YtoceghdnipjkfaaDoorAt
namespace Go.Proofs.YtoceghdnipjkfaaDoor
open Go.RowKit
attribute [local irreducible] st

set_option maxRecDepth 100000 in
set_option maxHeartbeats 2000000 in
theorem parse_idx (d : Nat) (T : Tab) (v : Value) (m1 m2 mx : Nat) (bv : Value) (first : Bool) (hb : Nat) (hv : Value) (l : List Fld) (g i : Nat) (gf : Fld) (rest : List UInt8) (w : World)
    (h : DecRep w d T v m1 m2 mx bv first hb hv l) (hr : RdV w g bv (orF 128 (vi 7 i) ++ rest)) (hg : g ∉ decSet d v m1 m2 hb hv) (hgl : g < w.heap.size) (hT : T.ents.length < 4294967000) (h0 : 1 ≤ i) (h1 : i ≤ 61 + T.ents.length) (hf : fieldAt T i = some gf) (hl : l.length ≤ 4000000) :
    Calls Tryd.prog 54 #[.pointer (some ⟨d, 0, none⟩)] w (DecRet w d T v m1 m2 mx first hb hv (l ++ [⟨gf.name, gf.value, false⟩]) g rest) := by
  have hr0 := hr
  obtain ⟨off, cap, rfl, hle, hm, hrd⟩ := hr
  generalize hN : (orF 128 (vi 7 i) ++ rest).length = N at *
  have HN := Lib.hid hN; clear hN
  have HR0 := Lib.hid hrd; clear hrd
  have HM := Lib.hid hm; clear hm
  have HF := Lib.hid hf; clear hf
  have c11 := h.tab.blk.cell 11 rfl
  have hd := h.tab.blk.lt
  have hil : i < 4294967296 := by omega
  go_enter Tryd.func54, Tryd.ntmps54
  go_upto_region 3 with ((go_at_call 62; refine (read_any 7 128 i g _ rest _ (.inr (.inr (.inr rfl))) (by decide) (by decide) hil hr0).mono ?_; rintro e w2 ⟨v2, rfl, r2, K2⟩; obtain ⟨off2, cap2, hv2, hle2, hm2, hrd2⟩ := r2; generalize hm3 : rest.length = m at hv2 hle2; subst hv2; have HM3 := Lib.hid hm3; clear hm3))
  have h2 := h.kept0 K2
  have HM2 := Lib.hid hm2; clear hm2
  go_upto_region 5 with (fail)
  go_upto_region 6 with ((go_at_call 63; refine (at_any d T v m1 m2 _ 80 i gf _ h2.tab (by omega) h0 h1 HF.out).mono ?_; rintro e w3 ⟨rfl, K3⟩))
  have h3 := h2.kept0 K3
  have hd3 : d < w3.heap.size := h3.tab.blk.lt
  have hgl3 : g < w3.heap.size := Nat.lt_of_lt_of_le hgl (Nat.le_trans K2.size K3.size)
  have hrd3 := hrd2.kept K3 (by simp)
  generalize hw4 : w3.alloc _ = w4
  obtain ⟨k4, X4, hx4⟩ := box_cells (l := fc gf) hw4
  have h4 := h3.kept0 k4
  have hrd4 := hrd3.kept k4 (by simp)
  generalize hxe : w3.heap.size = xb at X4 hx4 hd3 hgl3 ⊢
  have HW := Lib.hid hw4; clear hw4
  have HX := Lib.hid hxe; clear hxe
  clear c11
  have f11 := h4.tab.blk.frozen 11
  have c11 := h4.tab.blk.cell 11 rfl
  go_upto_region 9 with (fail)
  obtain ⟨h5, k5⟩ := h4.setBuf (.slice (some ⟨g, off2, none⟩) m cap2)
  have hdx : xb ≠ d := by omega
  have hgd : ¬ g = d := fun e' => hg (by simp [decSet, tset, e'])
  have X5 := X4.kept k5 (by simpa using hdx)
  have hrd5 := hrd4.kept k5 (by simpa using hgd)
  have hgs5 : g ∉ (hb :: hv.ownBlock.toList) := fun hx => hg (by simp [decSet] at hx ⊢; rcases hx with hx | hx <;> simp [hx])
  generalize hw5 : w4.setCell _ _ = w5 at h5 k5 X5 hrd5 ⊢
  have HW5 := Lib.hid hw5; clear hw5
  clear c11 f11
  have x0 := X5.cell 0 rfl
  have x1 := X5.cell 1 rfl
  go_wp2_with ((go_at_call 64; refine (call_emit d hb hv l ⟨gf.name, gf.value, false⟩ _ (h5.tab.blk.cell 8 rfl) (h5.tab.blk.cell 9 rfl) (h5.tab.blk.cell 10 rfl) h5.box h5.row hl).mono ?_; rintro e w6 ⟨hv6, rfl, B6, R6, K6, N6⟩; replace N6 := Lib.hid N6))
  go_ret
  have k05 : Kept [d] w w5 := ((((K2.trans K3).trans k4).mono (by simp)).trans k5)
  have hrd6 := hrd5.kept K6 hgs5
  refine ⟨.slice (some ⟨g, off2, none⟩) m cap2, v, hv6, rfl, h5.emitted B6 R6 K6 N6.out, ⟨off2, cap2, by rw [HM3.out], by rw [HM3.out]; exact hle2, HM2.out, hrd6⟩, ?_, .inl rfl, N6.out.of_later k05.size⟩
  exact (k05.mono (by intro q hq; simp at hq; simp [decSet, tset, hq])).step K6 (by intro q hq; left; simp [decSet] at hq ⊢; rcases hq with hq | hq <;> simp [hq])
set_option maxRecDepth 100000 in
set_option maxHeartbeats 2000000 in
theorem parse_size (d : Nat) (T : Tab) (v : Value) (m1 m2 mx : Nat) (bv : Value) (hb : Nat) (hv : Value) (l : List Fld) (g n : Nat) (rest : List UInt8) (w : World)
    (h : DecRep w d T v m1 m2 mx bv true hb hv l) (hr : RdV w g bv (orF 32 (vi 5 n) ++ rest)) (hg : g ∉ decSet d v m1 m2 hb hv) (hn : n ≤ 4096) (hok : TOk T mx) :
    Calls Tryd.prog 56 #[.pointer (some ⟨d, 0, none⟩)] w (DecRet w d (fit n T) v m1 m2 n true hb hv l g rest) := by
  have hr0 := hr
  obtain ⟨off, cap, rfl, hle, hm, hrd⟩ := hr
  generalize hN : (orF 32 (vi 5 n) ++ rest).length = N at *
  have HN := Lib.hid hN; clear hN
  have HR0 := Lib.hid hrd; clear hrd
  have HM := Lib.hid hm; clear hm
  have c11 := h.tab.blk.cell 11 rfl
  have c15 := h.tab.blk.cell 15 rfl
  have hd := h.tab.blk.lt
  have hil : n < 4294967296 := by omega
  go_enter Tryd.func56, Tryd.ntmps56
  go_upto_region 5 with ((go_at_call 62; refine (read_any 5 32 n g _ rest _ (.inr (.inl rfl)) (by decide) (by decide) hil hr0).mono ?_; rintro e w2 ⟨v2, rfl, r2, K2⟩; obtain ⟨off2, cap2, hv2, hle2, hm2, hrd2⟩ := r2; generalize hm3 : rest.length = m at hv2 hle2; subst hv2; have HM3 := Lib.hid hm3; clear hm3))
  have h2 := h.kept0 K2
  have HM2 := Lib.hid hm2; clear hm2
  have c7 := h2.tab.blk.cell 7 rfl
  have b7 : decide ((4096 : Int) < (n : Int)) = false := by simp; omega
  have hTl := hok.len
  have hTs : tsz T.ents < 4294967296 := by have := hok.sz; have := hok.mx; omega
  have hTF := hok.fb
  have HOK := Lib.hid hok; clear hok
  go_upto_region 10 with ((go_at_call 27; refine (set_max d T v m1 m2 mx n _ 80 _ h2.tab (by omega) hTs hTF).mono ?_; rintro e w3 ⟨v3, rfl, R3, K3, hb3⟩))
  have HB3 := Lib.hid hb3; clear hb3
  have h3 := h2.newTab K3 R3 (.inl HB3.out)
  have hgs : g ∉ tset d v m1 m2 := fun hx => hg (by simp [decSet] at hx ⊢; simp [hx])
  have hrd3 := hrd2.kept K3 hgs
  have f11 := h3.tab.blk.frozen 11
  have d11 := h3.tab.blk.cell 11 rfl
  clear c11 c15 c7
  go_wp2_with fail
  go_ret
  obtain ⟨h5, k5⟩ := h3.setBuf (.slice (some ⟨g, off2, none⟩) m cap2)
  have hgd : ¬ g = d := fun e' => hg (by simp [decSet, tset, e'])
  have hrd5 := hrd3.kept k5 (by simpa using hgd)
  refine ⟨.slice (some ⟨g, off2, none⟩) m cap2, v3, hv, rfl, h5, ⟨off2, cap2, by rw [HM3.out], by rw [HM3.out]; exact hle2, HM2.out, hrd5⟩, ?_, .inl HB3.out, .inl rfl⟩
  exact (((K2.mono (by simp)).step K3 (by intro q hq; left; simp [decSet]; simp [hq])).step k5 (by intro q hq; left; simp at hq; simp [decSet, tset, hq]))
end Go.Proofs.YtoceghdnipjkfaaDoor
