/-
  huffmanDecode reads what AppendHuffmanString has written.
-/
import Derived.Test.YtoceghdnipjkfaaDoorGrowTree
import Derived.Test.YtoceghdnipjkfaaDoorBits
import Derived.Test.YtoceghdnipjkfaaDoorBuf
import Derived.Test.YtoceghdnipjkfaaDoorRead
namespace Go.Proofs.YtoceghdnipjkfaaDoor
open Go.RowKit

/-- the tree, wherever the heap has grown to -/
structure TreeAt (w : World) (H : Nat) (lv : List Value) : Prop where
  ch : ∀ k, k < 15 → Blk w (cb H k) ((trieL.getD k []).map (chV H)) 145
  nd : ∀ k, k < 15 → Blk w (nb H k) [.pointer (some ⟨cb H k, 0, none⟩), .int .u8 0, .int .u8 0] 141
  lf : Blk w (H + 2) lv 144
  lv : LvOk lv 256
theorem TreeAt.of {w : World} {H : Nat} {lv : List Value} (h : TreeRep w H trieL lv) (l : LvOk lv 256) : TreeAt w H lv where
  ch := fun k hk => by
    have hk' : k < trieL.length := by rw [trieL_len]; exact hk
    refine h.ch k _ ?_
    rw [List.getD_eq_getElem?_getD, List.getElem?_eq_getElem hk']; rfl
  nd := fun k hk => h.nd k (by rw [trieL_len]; exact hk)
  lf := h.lf
  lv := l
theorem Blk.buf {B b : Nat} {w w' : World} {n : Nat} {l : List Value} {ty : TypeId} (h : Blk w n l ty) (hk : BufKept B b w w') (hn : n ≠ b) (ht : ty ≠ 5) : Blk w' n l ty :=
  hk.others n _ h (by simpa using hn) (by intro c fz e; cases e; exact ht rfl)
theorem cb_ge (H k : Nat) : H ≤ cb H k := by unfold cb; split <;> omega
theorem TreeAt.buf {B b : Nat} {w w' : World} {H : Nat} {lv : List Value} (h : TreeAt w H lv) (hk : BufKept B b w w') (hb : b < H) : TreeAt w' H lv where
  ch := fun k hk' => (h.ch k hk').buf hk (by have := cb_ge H k; omega) (by decide)
  nd := fun k hk' => (h.nd k hk').buf hk (by have := cb_ge H k; unfold nb; omega) (by decide)
  lf := h.lf.buf hk (by omega) (by decide)
  lv := h.lv
theorem TreeAt.child {w : World} {H : Nat} {lv : List Value} (h : TreeAt w H lv) {k i n : Nat} (hk : k < 15) (hi : i < 256) (hn : child k i = n) : w.cell? ⟨cb H k, i, none⟩ = some (chV H n) := by
  have hk' : k < trieL.length := by rw [trieL_len]; exact hk
  refine (h.ch k hk).cell i ?_
  have hrow : (trieL.getD k []).length = 256 := by
    have := List.all_eq_true.1 trieL_row _ (List.getElem_mem hk')
    rw [List.getD_eq_getElem?_getD, List.getElem?_eq_getElem hk']
    simpa using this
  rw [List.getElem?_map, ← hn]
  unfold YtoceghdnipjkfaaDoor.child
  rw [List.getD_eq_getElem?_getD (l := trieL.getD k []), List.getElem?_eq_getElem (by omega)]; rfl
theorem TreeAt.node {w : World} {H : Nat} {lv : List Value} (h : TreeAt w H lv) {k : Nat} (hk : k < 15) : w.cell? ⟨nb H k, 0, none⟩ = some (.pointer (some ⟨cb H k, 0, none⟩)) := (h.nd k hk).cell 0 rfl
theorem chV_node (H k : Nat) : chV H (257 + k) = .pointer (some ⟨nb H k, 0, none⟩) := by
  unfold chV; rw [if_neg (by omega), if_neg (by omega), show 257 + k - 257 = k from by omega]
theorem chV_leaf (H s : Nat) (hs : s < 256) : chV H (s + 1) = .pointer (some ⟨H + 2, 3 * s, none⟩) := by
  unfold chV; rw [if_neg (by omega), if_pos (by omega), show s + 1 - 1 = s from by omega, Nat.mul_comm]
theorem TreeAt.leaf {w : World} {H : Nat} {lv : List Value} (h : TreeAt w H lv) (c : UInt8) :
    w.cell? ⟨H + 2, 3 * c.toNat, none⟩ = some (.pointer none) ∧ w.cell? ⟨H + 2, 3 * c.toNat + 1, none⟩ = some (.int .u8 (rem8 (hlenL.getD c.toNat 0) : Nat)) ∧ w.cell? ⟨H + 2, 3 * c.toNat + 2, none⟩ = some (.int .u8 (c.toNat : Nat)) :=
  ⟨h.lf.cell _ (h.lv.c0 _ c.toNat_lt), h.lf.cell _ (h.lv.c1 _ c.toNat_lt), h.lf.cell _ (h.lv.c2 _ c.toNat_lt)⟩

/-- the bits read so far, as they lie in 'cur' -/
noncomputable def curAt (s : List UInt8) (j : Nat) : Nat := hM s / 256 ^ (hLen s - j) % 18446744073709551616

def HdRel (B b H : Nat) (lv : List Value) (s : List UInt8) (w0 : World) (a8 a9 a10 a11 a20 : Value) (wr : World) : Prop :=
  ∃ j t d cu c sb, a8 = .pointer (some ⟨nb H (hNode s t d), 0, none⟩) ∧ a9 = .int .u64 (cu : Nat) ∧ a10 = .int .u8 (c : Nat) ∧ a11 = .int .u8 (sb : Nat) ∧ a20 = .int .i64 (j : Nat) ∧
    curAt s j = cu ∧ HSt s j t d ∧ hN (s.take t) + 8 * d + c = 8 * j ∧ c + 8 * d = sb ∧ c < 8 ∧ IsBuf B b (s.take t) wr ∧ TreeAt wr H lv ∧ Below B w0 wr
def HdIn (B b H : Nat) (lv : List Value) (s : List UInt8) (w0 : World) (j mc : Nat) (a8 a10 a11 : Value) (wr : World) : Prop :=
  ∃ t d c sb, a8 = .pointer (some ⟨nb H (hNode s t d), 0, none⟩) ∧ a10 = .int .u8 (c : Nat) ∧ a11 = .int .u8 (sb : Nat) ∧
    HSt s j t d ∧ hN (s.take t) + 8 * d + c = 8 * j ∧ c + 8 * d = sb ∧ c < mc ∧ IsBuf B b (s.take t) wr ∧ TreeAt wr H lv ∧ Below B w0 wr

theorem Rd.below {B g off : Nat} {w w' : World} {l : List UInt8} (h : Rd w g off l) (hb : Below B w w') (hg : g < B) : Rd w' g off l := fun k b hk => by
  rw [hb.cell (p := ⟨g, off + k, none⟩) hg]; exact h k b hk
theorem curAt_zero (s : List UInt8) : curAt s 0 = 0 := by
  unfold curAt; rw [Nat.sub_zero, Nat.div_eq_of_lt (hM_lt s)]
theorem curAt_lt (s : List UInt8) (j : Nat) : curAt s j < 18446744073709551616 := Nat.mod_lt _ (by decide)
theorem start_st (s : List UInt8) : HSt s 0 0 0 := ⟨Nat.zero_le _, fun _ => by have := hl_le (s.getD 0 0); omega, fun _ => rfl, by simp [hN], Nat.zero_le _⟩
theorem IsBuf.kept {B b : Nat} {l : List UInt8} {w w' : World} (h : IsBuf B b l w) (hk : Kept [] w w') : IsBuf B b l w' := by
  obtain ⟨h0, v, lr, h1, h2, h3⟩ := h
  refine ⟨h0, v, lr, hk.heap h1 (by simp), ?_, h3⟩
  refine ⟨h2.1, ?_⟩
  rcases h2.2 with h4 | ⟨g, cap, cur, rfl, hb, hg, r⟩
  · exact .inl h4
  · exact .inr ⟨g, cap, cur, rfl, hb, hk.heap hg (by simp), r⟩
theorem pads_lt : ((List.range 7).all fun p => decide (child 0 ((2 ^ (p + 1) - 1) * 2 ^ (8 - (p + 1))) < 272)) = true := by decide +kernel
theorem pad_lt {p : Nat} (h1 : 1 ≤ p) (h2 : p ≤ 7) : child 0 ((2 ^ p - 1) * 2 ^ (8 - p)) < 272 := by
  have h := List.all_eq_true.1 pads_lt (p - 1) (List.mem_range.2 (by omega))
  rw [show p - 1 + 1 = p from by omega] at h
  exact of_decide_eq_true h
theorem cur_end {s : List UInt8} {cu e : Nat} (hcu : curAt s (hLen s) = cu) (_he : e ≤ 8) : (cu : Int) * 2 ^ e % 256 = ((hM s * 2 ^ e % 256 : Nat) : Int) := by
  rw [show (256 : Int) = ((256 : Nat) : Int) from rfl, show (2 : Int) = ((2 : Nat) : Int) from rfl, ← Int.natCast_pow, ← Int.natCast_mul, ← Int.natCast_emod, ← hcu]
  congr 1
  unfold curAt
  rw [Nat.sub_self, Nat.pow_zero, Nat.div_one, show (18446744073709551616 : Nat) = 256 * 72057594037927936 from rfl, Nat.mul_mod, Nat.mod_mul_right_mod, ← Nat.mul_mod]
theorem cur_mask {s : List UInt8} {cu c : Nat} (hcu : curAt s (hLen s) = cu) (hc : c = pad (hN s)) : bits .and .u64 (cu : Int) ((2 ^ c - 1 : Nat) : Int) = ((2 ^ c - 1 : Nat) : Int) := by
  have hp := pad_le (hN s)
  have hcl := curAt_lt s (hLen s)
  rw [hcu] at hcl
  have h2 : 2 ^ c ≤ 2 ^ 7 := Nat.pow_le_pow_right (by omega) (by omega)
  rw [u64_and_nat cu (2 ^ c - 1) hcl (by omega), Nat.and_two_pow_sub_one_eq_mod]
  have hm := mask_ok s
  rw [← hc] at hm
  have e1 : cu % 2 ^ c = hM s % 2 ^ c := by
    rw [← hcu]; unfold curAt
    rw [Nat.sub_self, Nat.pow_zero, Nat.div_one, show (18446744073709551616 : Nat) = 2 ^ c * 2 ^ (64 - c) from by rw [← Nat.pow_add, show c + (64 - c) = 64 from by omega], Nat.mod_mul_right_mod]
  rw [e1, hm]
theorem mask_wrap {c mk : Nat} (hc : c < 8) (hmk : 2 ^ c - 1 = mk) : IntKind.u64.wrap (IntKind.u64.wrap (2 ^ c) - 1) = (mk : Int) := by
  subst hmk
  have : c = 0 ∨ c = 1 ∨ c = 2 ∨ c = 3 ∨ c = 4 ∨ c = 5 ∨ c = 6 ∨ c = 7 := by omega
  rcases this with rfl | rfl | rfl | rfl | rfl | rfl | rfl | rfl <;> rfl
theorem cur_or {s : List UInt8} {j cu x n : Nat} (hcu : curAt s j = cu) (hn : hLen s = n) (hx : hM s / 256 ^ (n - 1 - j) % 256 = x) (hj : j < n) :
    bits .or .u64 (IntKind.u64.wrap ((cu : Int) * 256)) (x : Int) = ((curAt s (j + 1) : Nat) : Int) := by
  have h := huff_x (hM s / 256 ^ (n - j)) 8 x (by omega) (by rw [← hx]; exact Nat.mod_lt _ (by decide))
  have e1 : (hM s / 256 ^ (n - j) * 2 ^ 8 + x) % 18446744073709551616 = curAt s (j + 1) := by
    unfold curAt
    rw [hn, ← cur_step _ _ _ hj, hx]
  have e2 : (cu : Int) = ((hM s / 256 ^ (n - j) : Nat) : Int) % 18446744073709551616 := by
    rw [← hcu]; unfold curAt; rw [hn]; omega
  have e3 : IntKind.u64.wrap (x : Int) = (x : Int) := IntWalk.u64_in _ (by rw [← hx]; have := Nat.mod_lt (hM s / 256 ^ (n - 1 - j)) (show 256 > 0 by decide); omega)
  rw [e1, e3, ← e2] at h
  exact h
theorem cur_idx {s : List UInt8} {j cu e : Nat} (hcu : curAt s j = cu) (he : e ≤ 8) : (cu : Int) / 2 ^ e % 256 = ((hM s / 256 ^ (hLen s - j) / 2 ^ e % 256 : Nat) : Int) := by
  rw [show (256 : Int) = ((256 : Nat) : Int) from rfl, show (2 : Int) = ((2 : Nat) : Int) from rfl, ← Int.natCast_pow, ← Int.natCast_ediv, ← Int.natCast_emod, ← hcu]
  congr 1
  unfold curAt
  have e1 : (18446744073709551616 : Nat) = 2 ^ e * (256 * 2 ^ (56 - e)) := by
    rw [show (256 : Nat) = 2 ^ 8 from rfl, ← Nat.pow_add, ← Nat.pow_add, show e + (8 + (56 - e)) = 64 from by omega]
  rw [e1, Nat.mod_mul_right_div_self, Nat.mod_mul_right_mod]
set_option maxRecDepth 100000 in
set_option maxHeartbeats 4000000 in
theorem hdec_any (B b g off cap : Nat) (s : List UInt8) (w : World) (hb : IsBuf B b [] w) (hB : B ≤ w.heap.size) (hg : Glob w) (hgB : g < B)
    (hcap : hLen s ≤ cap) (hm : cap ≤ maxLen) (hr : Rd w g off (be (hLen s) (hM s))) (hs : s.length ≤ 4000000) :
    Calls Tryd.prog 72 #[.pointer (some ⟨b, 0, none⟩), .int .i64 0, .slice (some ⟨g, off, none⟩) (hLen s) cap] w fun e w' => e = .returned .nilIface ∧ IsBuf B b s w' ∧ Below B w w' := by
  have hbH : b < w.heap.size := Lib.IsBuffer.lt hb
  have hlen : hLen s ≤ 120000008 := by have := hN_le s; unfold hLen; omega
  obtain ⟨n, hn⟩ : ∃ n, hLen s = n := ⟨_, rfl⟩
  rw [hn] at hcap hr hlen ⊢
  have HN := Lib.hid hn; clear hn
  have HM := Lib.hid hm; clear hm
  go_enter Tryd.func72, Tryd.ntmps72
  go_upto_region 2 with ((go_at_call 74; refine (tree_any _ hg).mono ?_; rintro e w1 ⟨lv, rfl, hT, hlv, hk⟩))
  have hTA := TreeAt.of hT hlv
  have hB1 : Below B w w1 := hk.below hB (by simp)
  have hb1 := hb.kept hk
  have hr1 := hr.kept hk (by simp)
  obtain ⟨H, hH⟩ : ∃ H, w.heap.size = H := ⟨_, rfl⟩
  rw [hH] at hTA hbH ⊢
  have HH := Lib.hid hH; clear hH hT
  go_wp2_with fail
  go_loopw [8, 9, 10, 11, 20] (HdRel B b H lv s w1) (fun _ _ _ _ i _ => n - (intOf i).toNat)
  case atStart => exact ⟨0, 0, 0, 0, 0, 0, rfl, rfl, rfl, rfl, rfl, curAt_zero s, start_st s, by simp [hN], rfl, by omega, hb1, hTA, Below.refl _ _⟩
  case round =>
    obtain ⟨j, t, d, cu, c, sb, rfl, rfl, rfl, rfl, rfl, hcu, hst, hc, hsb, hc8, hbf, hta, hbl⟩ := hrel
    have HCU := Lib.hid hcu; clear hcu
    have HST := Lib.hid hst; clear hst
    have HC := Lib.hid hc; clear hc
    have HSB := Lib.hid hsb
    have hd3 : 8 * d ≤ 30 := by
      by_cases e : t = s.length
      · have := HST.out.z e; omega
      · have := HST.out.d_lt (by have := HST.out.t_le; omega); have := hl_le (s.getD t 0); omega
    by_cases hlt : j < n
    · obtain ⟨x, hx⟩ : ∃ x, hM s / 256 ^ (n - 1 - j) % 256 = x := ⟨_, rfl⟩
      have hx256 : x < 256 := by rw [← hx]; exact Nat.mod_lt _ (by decide)
      have c0 := hr1.below hbl hgB j (b8 x) (by rw [be_get _ _ _ hlt, hx])
      rw [b8_int hx256] at c0
      have HX := Lib.hid hx; clear hx hsb
      have t1 : (0 : Int) ≤ (j : Int) := by omega
      have t2 : (j : Int) < (n : Int) := by omega
      go_upto_region 10 with (fail)
      obtain ⟨sb8, hsb8⟩ : ∃ q, sb + 8 = q := ⟨_, rfl⟩
      rw [cur_or HCU.out HN.out HX.out hlt, show ((sb : Int) + 8) % 256 = (sb8 : Int) from by have := HSB.out; omega]
      obtain ⟨cu2, hcu2⟩ : ∃ cu2, curAt s (j + 1) = cu2 := ⟨_, rfl⟩
      rw [hcu2]
      have HCU2 := Lib.hid hcu2; clear hcu2
      have hst2 : HSt s (j + 1) t d := ⟨HST.out.t_le, HST.out.d_lt, HST.out.z, by have := HST.out.c; omega, by rw [HN.out]; omega⟩
      have hc2 : hN (s.take t) + 8 * d + (c + 8) = 8 * (j + 1) := by have := HC.out; omega
      have hsb2 : (c + 8) + 8 * d = sb8 := by have := HSB.out; omega
      clear hsb8
      clear c0
      go_loopw [8, 10, 11] (HdIn B b H lv s w1 (j + 1) 16) (fun _ c _ _ => (intOf c).toNat)
      case atStart => exact ⟨t, d, c + 8, sb8, rfl, by go_num, rfl, hst2, hc2, hsb2, by omega, hbf, hta, hbl⟩
      case round =>
        clear hst2 hc2 hsb2 hbf hta hbl hd3
        obtain ⟨t, d, c, sb, rfl, rfl, rfl, hst, hc, hsb, hc8, hbf, hta, hbl⟩ := hrel
        by_cases h8 : 8 ≤ c
        · obtain ⟨htl, hi256, hstep⟩ := in_step hst hc h8
          have hidx := cur_idx HCU2.out (show c - 8 ≤ 8 by omega)
          have nd0 := hst.node
          have n0 := hta.node nd0
          have htk := take_at htl
          have b8' : decide ((8 : Int) ≤ (c : Int)) = true := by simp; omega
          have hsub : IntKind.u8.wrap ((c : Int) - 8) = ((c - 8 : Nat) : Int) := by
            rw [show (c : Int) - 8 = ((c - 8 : Nat) : Int) from by omega]; exact IntWalk.u8_in _ (by omega)
          generalize hM s / 256 ^ (hLen s - (j + 1)) / 2 ^ (c - 8) % 256 = i at hidx hi256 hstep
          obtain ⟨e, he⟩ : ∃ e, c - 8 = e := ⟨_, rfl⟩
          rw [he] at hidx hsub
          generalize hnd : hNode s t d = nd at n0 nd0 hstep
          have HND := Lib.hid hnd; clear hnd
          have HSB2 := Lib.hid hsb; clear hsb
          have HC2 := Lib.hid hc; clear hc
          have HE := Lib.hid he; clear he
          have HTK := Lib.hid htk; clear htk
          have i1 : (0 : Int) ≤ (i : Int) := by omega
          have i2 : (i : Int) < 256 := by omega
          rcases hstep with ⟨hch, hst3⟩ | ⟨k, hch, hk1, hk8, hst3, htot⟩
          · have ch := hta.child nd0 hi256 hch
            rw [chV_node] at ch
            have n1 := hta.node hst3.node
            generalize hnd1 : hNode s t (d + 1) = nd1 at ch n1
            have HND1 := Lib.hid hnd1; clear hnd1 hch
            have HIX := Lib.hid hidx; clear hidx
            go_upto_region 12 with (fail)
            rw [show min e 64 = e from by have := HE.out; omega, HIX.out]
            go_wp2_with fail
            have he1 := HE.out
            refine ⟨⟨t, d + 1, e, sb, ?_, rfl, rfl, hst3, ?_, ?_, ?_, hbf, hta, hbl⟩, ?_⟩
            · rw [HND1.out]
            · have := HC2.out; omega
            · have := HSB2.out; omega
            · omega
            · simp [intOf]; omega
          · have ch := hta.child nd0 hi256 hch
            rw [chV_leaf _ _ (UInt8.toNat_lt _)] at ch
            have l3 := hta.leaf (s.getD t 0)
            obtain ⟨l0, l1, l2⟩ := l3
            have hrm : rem8 (hlenL.getD (s.getD t 0).toNat 0) = k := hk1
            have hk1' : 1 ≤ k := by omega
            have hrm0 := hrm
            have hrm0 := Lib.hid hrm0
            rw [hrm] at l1
            have HIX := Lib.hid hidx; clear hidx
            have hBw : B ≤ wr.heap.size := Nat.le_of_lt (Nat.lt_of_le_of_lt hbf.1 (Lib.IsBuffer.lt hbf))
            have hcap2 : (s.take t).length + 1 ≤ 140737488355328 := by rw [List.length_take]; omega
            generalize hsy : s.getD t 0 = sy at ch l0 l1 l2
            have HSY := Lib.hid hsy; clear hsy hrm hk1 hch
            have HTOT := Lib.hid htot; clear htot
            go_upto_region 12 with (fail)
            rw [show min e 64 = e from by have := HE.out; omega, HIX.out]
            go_upto_region 19 with ((go_at_call 75; refine (write_byte B b (s.take t) sy _ hbf hBw hcap2).mono ?_; rintro en w2 ⟨rfl, hbf2, hk2⟩))
            have hta2 := hta.buf hk2 hbH
            have l1' := (hta2.leaf sy).2.1
            have hrm2 : rem8 (hlenL.getD sy.toNat 0) = k := by rw [← HSY.out]; exact hrm0.out
            rw [hrm2] at l1'
            have hsub2 : IntKind.u8.wrap ((c : Int) - (k : Int)) = ((c - k : Nat) : Int) := by
              rw [show (c : Int) - (k : Int) = ((c - k : Nat) : Int) from by omega]; exact IntWalk.u8_in _ (by omega)
            obtain ⟨c3, hc3⟩ : ∃ c3, c - k = c3 := ⟨_, rfl⟩
            rw [hc3] at hsub2
            have HC3 := Lib.hid hc3; clear hc3 hrm2 l0 l1 l2 ch n0
            go_wp2_with fail
            have he3 := HC3.out
            have hk0 : 1 ≤ k := hk1'
            refine ⟨⟨t + 1, 0, c3, c3, by rw [hNode_zero], rfl, rfl, hst3, ?_, by omega, by omega, ?_, hta2, hbl.trans hk2.below⟩, ?_⟩
            · have := HTOT.out; have := HC2.out; omega
            · rw [HTK.out, HSY.out]; exact hbf2
            · simp [intOf]; omega
        · have b8' : decide ((8 : Int) ≤ (c : Int)) = false := by simp; omega
          have HC2 := Lib.hid hc; clear hc
          have HSB2 := Lib.hid hsb; clear hsb
          go_wp2_with fail
          refine ⟨⟨j + 1, t, d, cu2, c, sb, rfl, rfl, rfl, rfl, by go_num, HCU2.out, hst, HC2.out, HSB2.out, by omega, hbf, hta, hbl⟩, by simp [intOf]; omega⟩
    · have hjn : j = n := by have := HST.out.j_le; have := HN.out; omega
      subst hjn
      have hb9 : decide ((j : Int) < (j : Int)) = false := by simp
      have hst' : HSt s (hLen s) t d := by rw [HN.out]; exact HST.out
      have hc' : hN (s.take t) + 8 * d + c = 8 * hLen s := by rw [HN.out]; exact HC.out
      have hcu' : curAt s (hLen s) = cu := by rw [HN.out]; exact HCU.out
      have HCE := Lib.hid hcu'; clear hcu'
      go_wp2_with fail
      go_loopw [8, 10, 11] (HdIn B b H lv s w1 (hLen s) 8) (fun _ c _ _ => (intOf c).toNat)
      case atStart => exact ⟨t, d, c, sb, rfl, rfl, rfl, hst', hc', hsb, hc8, hbf, hta, hbl⟩
      case round =>
        clear hst' hc' hsb hbf hta hbl hd3 hc8 HST HC HSB
        obtain ⟨t, d, c, sb, rfl, rfl, rfl, hst, hc, hsb, hc8, hbf, hta, hbl⟩ := hrel
        by_cases h0 : 0 < c
        · obtain ⟨hi256, hstep⟩ := end_step hst hc hc8 h0
          have hidx := cur_end HCE.out (show 8 - c ≤ 8 by omega)
          have nd0 := hst.node
          have n0 := hta.node nd0
          have b8' : decide ((0 : Int) < (c : Int)) = true := by simp; omega
          have hsub : IntKind.u8.wrap ((8 : Int) - (c : Int)) = ((8 - c : Nat) : Int) := by
            rw [show (8 : Int) - (c : Int) = ((8 - c : Nat) : Int) from by omega]; exact IntWalk.u8_in _ (by omega)
          obtain ⟨i, hii⟩ : ∃ i, hM s * 2 ^ (8 - c) % 256 = i := ⟨_, rfl⟩
          rw [hii] at hidx hi256 hstep
          obtain ⟨e, he⟩ : ∃ e, 8 - c = e := ⟨_, rfl⟩
          rw [he] at hidx hsub
          generalize hnd : hNode s t d = nd at n0 nd0 hstep
          have HND := Lib.hid hnd; clear hnd
          have HSB2 := Lib.hid hsb; clear hsb
          have HC2 := Lib.hid hc; clear hc
          have HE := Lib.hid he
          have HII := Lib.hid hii; clear hii
          have i1 : (0 : Int) ≤ (i : Int) := by omega
          have i2 : (i : Int) < 256 := by omega
          have HIX := Lib.hid hidx; clear hidx
          clear he
          rcases hstep with ⟨htl, k, hch, hk1, hkc, hst3, htot⟩ | ⟨htl, hd0, hcp, ch, hch, hne, hor⟩
          · have htk := take_at htl
            have HTK := Lib.hid htk; clear htk
            have ch := hta.child nd0 hi256 hch
            rw [chV_leaf _ _ (UInt8.toNat_lt _)] at ch
            obtain ⟨l0, l1, l2⟩ := hta.leaf (s.getD t 0)
            have hrm : rem8 (hlenL.getD (s.getD t 0).toNat 0) = k := hk1
            have hk1' : 1 ≤ k := by omega
            have HRM := Lib.hid hrm
            rw [hrm] at l1
            have hBw : B ≤ wr.heap.size := Nat.le_of_lt (Nat.lt_of_le_of_lt hbf.1 (Lib.IsBuffer.lt hbf))
            have hcap2 : (s.take t).length + 1 ≤ 140737488355328 := by rw [List.length_take]; omega
            generalize hsy : s.getD t 0 = sy at ch l0 l1 l2
            have HSY := Lib.hid hsy; clear hsy hrm hk1 hch
            have HTOT := Lib.hid htot; clear htot
            have bk : decide ((c : Int) < (k : Int)) = false := by simp; omega
            have hix : IntKind.u64.wrap ((cu : Int) * 2 ^ min e 64) % 256 = (i : Int) := by
              rw [show min e 64 = e from by have := HE.out; omega, IntKind.wrap_u64, Int.emod_emod_of_dvd _ (by decide)]; exact HIX.out
            go_upto_region 25 with (fail)
            go_upto_region 32 with ((go_at_call 75; refine (write_byte B b (s.take t) sy _ hbf hBw hcap2).mono ?_; rintro en w2 ⟨rfl, hbf2, hk2⟩))
            have hta2 := hta.buf hk2 hbH
            have l1' := (hta2.leaf sy).2.1
            have hrm2 : rem8 (hlenL.getD sy.toNat 0) = k := by rw [← HSY.out]; exact HRM.out
            rw [hrm2] at l1'
            have hsub2 : IntKind.u8.wrap ((c : Int) - (k : Int)) = ((c - k : Nat) : Int) := by
              rw [show (c : Int) - (k : Int) = ((c - k : Nat) : Int) from by omega]; exact IntWalk.u8_in _ (by omega)
            obtain ⟨c3, hc3⟩ : ∃ c3, c - k = c3 := ⟨_, rfl⟩
            rw [hc3] at hsub2
            have HC3 := Lib.hid hc3; clear hc3 hrm2 l0 l1 l2 ch n0
            go_wp2_with fail
            have he3 := HC3.out
            refine ⟨⟨t + 1, 0, c3, c3, by rw [hNode_zero], rfl, rfl, hst3, ?_, by omega, by omega, ?_, hta2, hbl.trans hk2.below⟩, ?_⟩
            · have := HTOT.out; have := HC2.out; omega
            · rw [HTK.out, HSY.out]; exact hbf2
            · simp [intOf]; omega
          · have hn0 : nd = 0 := by rw [← HND.out, hd0]; rfl
            subst hn0
            have hchl : ch < 272 := by
              have hp := pad_lt (p := c) (by omega) (by omega)
              have hii := HII.out
              have : i = (2 ^ c - 1) * 2 ^ (8 - c) := by
                rw [← hii]; unfold hM; rw [← hcp]; exact pad_tail _ _ (by omega)
              rw [← this, hch] at hp; exact hp
            have hcc := hta.child nd0 hi256 hch
            have hsb7 : decide ((7 : Int) < (sb : Int)) = false := by have := HSB2.out; simp; omega
            have hix : IntKind.u64.wrap ((cu : Int) * 2 ^ min e 64) % 256 = (i : Int) := by
              rw [show min e 64 = e from by have := HE.out; omega, IntKind.wrap_u64, Int.emod_emod_of_dvd _ (by decide)]; exact HIX.out
            have hand := cur_mask HCE.out hcp
            obtain ⟨mk, hmk⟩ : ∃ mk, 2 ^ c - 1 = mk := ⟨_, rfl⟩
            rw [hmk] at hand
            have hmk2 : IntKind.u64.wrap (IntKind.u64.wrap (2 ^ c) - 1) = (mk : Int) := mask_wrap hc8 hmk
            have HCP := Lib.hid hcp; clear hcp hch hmk
            have HHII := Lib.hid hix
            by_cases h257 : 257 ≤ ch
            · obtain ⟨m, rfl⟩ : ∃ m, ch = 257 + m := ⟨ch - 257, by omega⟩
              rw [chV_node] at hcc
              have n1 := hta.node (show m < 15 by omega)
              go_upto_region 38 with (fail)
              go_wp2_with fail
              go_ret
              rw [htl, List.take_length] at hbf
              exact ⟨rfl, hbf, hB1.trans hbl⟩
            · obtain ⟨m, rfl⟩ : ∃ m, ch = m + 1 := ⟨ch - 1, by omega⟩
              have hm256 : m < 256 := by omega
              rw [chV_leaf _ _ hm256] at hcc
              have l0 := hta.lf.cell _ (hta.lv.c0 m hm256)
              have l1 := hta.lf.cell _ (hta.lv.c1 m hm256)
              have hck : c < rem8 (hlenL.getD m 0) := by rcases hor with h | h; omega; exact h
              generalize rem8 (hlenL.getD m 0) = k at l1 hck
              have bk : decide ((c : Int) < (k : Int)) = true := by simp; omega
              clear hor
              go_upto_region 38 with (fail)
              go_wp2_with fail
              go_ret
              rw [htl, List.take_length] at hbf
              exact ⟨rfl, hbf, hB1.trans hbl⟩
        · obtain ⟨htl, hd0, hp0⟩ := end_done hst (by omega)
          have hsb7 : decide ((7 : Int) < (sb : Int)) = false := by simp; omega
          have b8' : decide ((0 : Int) < (c : Int)) = false := by simp; omega
          have hand := cur_mask HCE.out (show c = pad (hN s) by omega)
          obtain ⟨mk, hmk⟩ : ∃ mk, 2 ^ c - 1 = mk := ⟨_, rfl⟩
          rw [hmk] at hand
          have hmk2 : IntKind.u64.wrap (IntKind.u64.wrap (2 ^ c) - 1) = (mk : Int) := mask_wrap hc8 hmk
          have b9' : decide (0 < c) = false := by simp; omega
          clear hmk hsb hc hp0
          go_upto_region 38 with (fail)
          go_wp2_with fail
          go_ret
          rw [htl, List.take_length] at hbf
          exact ⟨rfl, hbf, hB1.trans hbl⟩
end Go.Proofs.YtoceghdnipjkfaaDoor
