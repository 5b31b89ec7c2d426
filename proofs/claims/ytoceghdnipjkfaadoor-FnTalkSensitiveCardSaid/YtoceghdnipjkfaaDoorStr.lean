/-
  A string read: readString cuts it out, decodeString gives its text.
-/
import Derived.Test.YtoceghdnipjkfaaDoorHdec
import Derived.Laws.IdiomStrings
import Derived.Laws.ResultCell
namespace Go.Proofs.YtoceghdnipjkfaaDoor
open Go.RowKit

/-- what readString hands on: whether it is Huffman-coded, and the bytes -/
def UStr (w : World) (g : Nat) (s : ByteArray) (h : Bool) (bv : Value) : Prop := if h = true then RdV w g bv (huff s) else RdV w g bv (bl s)
theorem UStr.kept {w w' : World} {g : Nat} {s : ByteArray} {h : Bool} {bv : Value} (u : UStr w g s h bv) (hk : Kept [] w w') : UStr w' g s h bv := by
  unfold UStr at *
  split
  · rename_i e; rw [if_pos e] at u; exact u.kept hk (by simp)
  · rename_i e; rw [if_neg e] at u; exact u.kept hk (by simp)
theorem Kept.ofBelow {w w' : World} (h : Below w.heap.size w w') : Kept [] w w' := ⟨h.os, h.tape, h.output, h.size, fun k hk _ => h.block k hk⟩
theorem bl_back (s : ByteArray) : (⟨(bl s).toArray⟩ : ByteArray) = s := by unfold bl; simp

set_option maxRecDepth 100000 in
set_option maxHeartbeats 1000000 in
theorem dec_plain (d g : Nat) (bv : Value) (s : ByteArray) (w : World) (hu : RdV w g bv (bl s)) :
    Calls Tryd.prog 67 #[.pointer (some ⟨d, 0, none⟩), .agg #[.bool false, bv]] w fun e w' => e = .returned (.tuple #[.string s, .nilIface]) ∧ Kept [] w w' := by
  obtain ⟨off, cap, rfl, hle, hm, hr⟩ := hu
  have hk1 : Kept [] w (w.alloc (.cells #[.bool false, .slice (some ⟨g, off, none⟩) (bl s).length cap] 125)) := (Kept.refl [] w).alloc _
  have hr1 := hr.kept hk1 (by simp)
  have hcv := run_convert_bytes_back (P := Tryd.prog) (w.alloc (.cells #[.bool false, .slice (some ⟨g, off, none⟩) (bl s).length cap] 125)) 31 9 5 ⟨g, off, none⟩ cap (bl s) Tryd.underlying31 Tryd.underlying5 Tryd.underlying9 (fun j hj => by
    rw [Addr.add_lit]; exact hr1 j _ (List.getElem?_eq_getElem hj))
  rw [bl_back] at hcv
  generalize (bl s).length = n at *
  have HM := Lib.hid hm; clear hm
  clear hr1
  go_enter Tryd.func67, Tryd.ntmps67
  go_wp2_with fail
  go_ret2
  exact ⟨rfl, hk1⟩

set_option maxRecDepth 100000 in
set_option maxHeartbeats 1000000 in
theorem dec_huff (d g : Nat) (bv : Value) (s : ByteArray) (w : World) (c10 : w.cell? ⟨d, 10, none⟩ = some (.int .i64 0)) (hu : RdV w g bv (huff s)) (hg : Glob w) (hgl : g < w.heap.size) (hs : s.size ≤ 4000000) :
    Calls Tryd.prog 67 #[.pointer (some ⟨d, 0, none⟩), .agg #[.bool true, bv]] w fun e w' => e = .returned (.tuple #[.string s, .nilIface]) ∧ Kept [] w w' := by
  obtain ⟨off, cap, rfl, hle, hm, hr⟩ := hu
  have hd : d < w.heap.size := World.block_lt_of_cell? w _ c10
  rw [huff_len] at hle ⊢
  rw [huff_eq] at hr
  change hLen (bl s) ≤ cap at hle
  change Calls _ _ #[_, .agg #[_, .slice _ (hLen (bl s)) _]] _ _
  have HM := Lib.hid hm; clear hm
  have HL := Lib.hid hle; clear hle
  have hbs : (bl s).length ≤ 4000000 := by rw [bl_len]; exact hs
  go_enter Tryd.func67, Tryd.ntmps67
  go_upto_region 1 with (fail)
  generalize hw1 : w.alloc _ = w1
  obtain ⟨k1, X1, hx1⟩ := box_cells (l := [.bool true, .slice (some ⟨g, off, none⟩) (hLen (bl s)) cap]) hw1
  have c10 := k1.cell c10 (by simp)
  have g1 := hg.kept k1 (by simp) (by simp)
  have r1 := hr.kept k1 (by simp)
  have hgl1 : g < w1.heap.size := Nat.lt_of_lt_of_le hgl k1.size
  generalize hxe : w.heap.size = xb at X1 hx1 hd hgl ⊢
  have HW := Lib.hid hw1; clear hw1
  have HX := Lib.hid hxe; clear hxe
  have x0 := X1.cell 0 rfl
  have x1 := X1.cell 1 rfl
  have hb2 := fresh_buf w1
  go_upto_region 5 with (fail)
  generalize hw2 : w1.alloc _ = w2 at hb2
  have k2 : Kept [] w1 w2 := by rw [← hw2]; exact (Kept.refl [] w1).alloc _
  have hs2 : w2.heap.size = w1.heap.size + 1 := by rw [← hw2]; simp
  have c10 := k2.cell c10 (by simp)
  have x1 := k2.cell x1 (by simp)
  have g2 := g1.kept k2 (by simp) (by simp)
  have r2 := r1.kept k2 (by simp)
  have hB : w1.heap.size ≤ w2.heap.size := k2.size
  generalize hye : w1.heap.size = yb at hb2 hs2 hgl1 hB ⊢
  have HW2 := Lib.hid hw2; clear hw2
  have HY := Lib.hid hye; clear hye
  have HS2 := Lib.hid hs2; clear hs2
  go_region_with ((go_at_call 72; refine (hdec_any yb yb g off cap (bl s) _ (hb2.kept ((Kept.refl [] w2).drew)) (by exact hB) (g2.kept ((Kept.refl [] w2).drew) (by simp) (by simp)) hgl1 HL.out HM.out (r2.kept ((Kept.refl [] w2).drew) (by simp)) hbs).mono ?_; rintro e w3 ⟨rfl, hb3, hb⟩))
  all_goals
    go_wp2_with (first
      | (go_at_call 73; refine (buf_string yb yb (bl s) _ hb3).mono ?_; rintro e w4 ⟨rfl, nd, rfl⟩)
      | (go_at_call 38; refine (buf_reset yb yb (bl s) _ (hb3.kept ((Kept.refl [] w3).drewN nd))).mono ?_; rintro e w5 ⟨rfl, hb5, hk5⟩))
    go_ret2
    refine ⟨by first | rfl | (rw [bl_back]; rfl), ?_⟩
    have h01 := k1.trans k2
    have hy := HY.out
    have hbk : Below yb w2 w5 := by
      have a1 : Below yb w2 w3 := ⟨hb.os, hb.tape, hb.output, hb.size, hb.block⟩
      have a2 : Below yb w3 w5 := ⟨hk5.below.os, hk5.below.tape, hk5.below.output, hk5.below.size, hk5.below.block⟩
      exact a1.trans a2
    exact ⟨hbk.os.trans h01.os, hbk.tape.trans h01.tape, hbk.output.trans h01.output, Nat.le_trans h01.size hbk.size, fun k hk hn => (hbk.block k (by have := k1.size; omega)).trans (h01.block k hk hn)⟩
theorem dec_str (d g : Nat) (h : Bool) (bv : Value) (s : ByteArray) (w : World) (c10 : w.cell? ⟨d, 10, none⟩ = some (.int .i64 0)) (hu : UStr w g s h bv) (hg : Glob w) (hgl : g < w.heap.size) (hs : s.size ≤ 4000000) :
    Calls Tryd.prog 67 #[.pointer (some ⟨d, 0, none⟩), .agg #[.bool h, bv]] w fun e w' => e = .returned (.tuple #[.string s, .nilIface]) ∧ Kept [] w w' := by
  cases h
  · exact dec_plain d g bv s w hu
  · exact dec_huff d g bv s w c10 hu hg hgl hs
end Go.Proofs.YtoceghdnipjkfaaDoor
