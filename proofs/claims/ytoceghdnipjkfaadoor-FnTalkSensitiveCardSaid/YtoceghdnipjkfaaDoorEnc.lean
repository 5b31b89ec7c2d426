/-
  What the encoder writes: strings, fields.
-/
import Derived.Test.YtoceghdnipjkfaaDoorHuff
import Derived.Test.YtoceghdnipjkfaaDoorFind
namespace Go.Proofs.YtoceghdnipjkfaaDoor
open Go.RowKit

theorem Bts.parts {w : World} {v : Value} {l : List UInt8} (h : Bts w v l) (hne : 0 < l.length) : ∃ g cap, v = .slice (some ⟨g, 0, none⟩) l.length cap ∧ (∀ k b, l[k]? = some b → w.cell? ⟨g, k, none⟩ = some (.int .u8 b.toNat)) ∧ (∀ k, w.frozen? ⟨g, k, none⟩ = false) ∧ l.length ≤ cap := by
  rcases h.2 with ⟨_, h0⟩ | ⟨g, cap, cur, hv, _, hg, h1, h2, h3, h4⟩
  · omega
  · refine ⟨g, cap, hv, fun k b hk => ?_, fun k => frozen_of_row w g k _ _ hg, h1⟩
    have h : w.ownsRow 0 5 1 (.slice (some ⟨g, 0, none⟩) l.length cap) l.length (bc l) := by rw [← hv]; exact h
    have := h.cells (g := g) rfl k (.int .u8 b.toNat) (by unfold bc; rw [List.getElem?_map, hk]; rfl)
    rw [Addr.add_lit, Nat.zero_add] at this
    exact this
theorem bc_set (l : List UInt8) (k : Nat) (b : UInt8) : bc (l.set k b) = (bc l).set k (.int .u8 b.toNat) := by
  simp [bc, List.map_set]
theorem Bts.setByte {w : World} {g n cap : Nat} {l : List UInt8} (h : Bts w (.slice (some ⟨g, 0, none⟩) n cap) l) (k : Nat) (b : UInt8) : Bts (w.setCell ⟨g, k, none⟩ (.int .u8 b.toNat)) (.slice (some ⟨g, 0, none⟩) n cap) (l.set k b) := by
  unfold Bts at *
  rw [List.length_set, bc_set]
  refine ⟨by rw [List.length_set]; exact h.1, ?_⟩
  rcases h.2 with ⟨hv, _⟩ | ⟨g', cap', cur, hv, h0, hg, h1, h2, h3, h4⟩
  · cases hv
  · cases hv
    refine .inr ⟨g, cap, _, rfl, h0, heap_setCell_same w g k _ _ _ hg, h1, h2, by simpa using h3, ?_⟩
    rw [Array.toList_setIfInBounds, List.take_set, h4]
theorem AppTo.setByte {w w1 : World} {v : Value} {g n cap : Nat} {l : List UInt8} (h : AppTo w w1 v (.slice (some ⟨g, 0, none⟩) n cap) l) (k : Nat) (b : UInt8) : AppTo w (w1.setCell ⟨g, k, none⟩ (.int .u8 b.toNat)) v (.slice (some ⟨g, 0, none⟩) n cap) (l.set k b) := by
  refine ⟨h.own.setByte k b, h.kept.setCell ?_ _, h.blk⟩
  rcases h.blk with e | ⟨g', e, hg⟩
  · left; rw [← e]; simp [Value.ownBlock]
  · right; simp [Value.ownBlock] at e; show w.heap.size ≤ g; omega

/-- the first byte's upper bits set -/
def orF (first : Nat) : List UInt8 → List UInt8
  | [] => []
  | b :: r => b8 (b.toNat + first) :: r
theorem vi_cons (n i : Nat) : ∃ b r, vi n i = b :: r ∧ (n ≤ 7 → b.toNat < 2 ^ n) := by
  unfold vi
  split
  · refine ⟨_, _, rfl, fun hn => ?_⟩
    have : 2 ^ n ≤ 2 ^ 7 := Nat.pow_le_pow_right (by omega) hn
    rw [b8_toNat (by omega)]; omega
  · refine ⟨_, _, rfl, fun hn => ?_⟩
    have : 2 ^ n ≤ 2 ^ 7 := Nat.pow_le_pow_right (by omega) hn
    have := Nat.two_pow_pos n
    rw [b8_toNat (by omega)]; omega
theorem set_mid (l r : List UInt8) (b c : UInt8) : (l ++ b :: r).set l.length c = l ++ c :: r := by
  rw [List.set_append_right _ _ (Nat.le_refl _), Nat.sub_self]; rfl

/-- behind appendVarInt: where the first byte lies -/
def ViFirst (w : World) (v : Value) (l : List UInt8) (n i : Nat) (e : Ending) (w' : World) : Prop :=
  ∃ g n1 cap b r, e = .returned (.slice (some ⟨g, 0, none⟩) n1 cap) ∧ AppTo w w' v (.slice (some ⟨g, 0, none⟩) n1 cap) (l ++ b :: r) ∧ vi n i = b :: r ∧ b.toNat < 2 ^ n ∧ w'.cell? ⟨g, l.length, none⟩ = some (.int .u8 b.toNat) ∧ w'.frozen? ⟨g, l.length, none⟩ = false ∧ (l.length : Int) < (n1 : Int) ∧ n1 ≤ maxLen
theorem vi_first (v : Value) (l : List UInt8) (n i : Nat) (w : World) (hown : Bts w v l) (hn : n = 4 ∨ n = 5 ∨ n = 6 ∨ n = 7) (hi2 : i < 4294967296) (hl : l.length + 4 ≤ 4294967296) :
    Calls Tryd.prog 44 #[v, .int .u8 n, .int .u64 i] w (ViFirst w v l n i) := by
  refine (vi_any v l n i w hown hn hi2 hl).mono ?_
  rintro e w1 ⟨v1, rfl, h1⟩
  obtain ⟨b, r, hbr, hb⟩ := vi_cons n i
  rw [hbr] at h1
  obtain ⟨p, cap, hv, hle, hm⟩ := ownsRow_slice h1.own
  obtain ⟨g, cap1, hv1, hc, hf, hcap1⟩ := h1.own.parts (by simp <;> omega)
  subst hv
  cases hv1
  exact ⟨g, _, cap, b, r, rfl, h1, hbr, hb (by omega), hc l.length b (by simp), hf _, by simp <;> omega, by omega⟩
theorem or_first {x n first : Nat} (hx : x < 2 ^ n) (h1 : first % 2 ^ n = 0) (h2 : first < 256) (h3 : n ≤ 7) : bits .or .u8 (x : Int) (first : Int) = ((x + first : Nat) : Int) := by
  have : 2 ^ n ≤ 2 ^ 7 := Nat.pow_le_pow_right (by omega) h3
  rw [u8_or_nat x first (by omega) h2, Nat.or_comm, nat_join n first x h1 hx, Nat.add_comm]
/-- the first byte is stored anew -/
theorem AppTo.orFirst {w w1 : World} {v : Value} {g n cap : Nat} {l r : List UInt8} {b : UInt8} (h : AppTo w w1 v (.slice (some ⟨g, 0, none⟩) n cap) (l ++ b :: r)) (first : Nat) (hb : b.toNat + first < 256) (x : Int) (hx : x = ((b.toNat + first : Nat) : Int)) :
    AppTo w (w1.setCell ⟨g, l.length, none⟩ (.int .u8 x)) v (.slice (some ⟨g, 0, none⟩) n cap) (l ++ orF first (b :: r)) := by
  have := h.setByte l.length (b8 (b.toNat + first))
  rw [set_mid, b8_toNat hb] at this
  rw [hx]; exact this

set_option maxRecDepth 100000 in
set_option maxHeartbeats 1000000 in
theorem size_upd_any (v : Value) (l : List UInt8) (i : Nat) (w : World) (hown : Bts w v l) (hi : i < 4294967296) (hl : l.length + 4 ≤ 4294967296) :
    Calls Tryd.prog 28 #[v, .int .u32 i] w (RetApp w v (l ++ orF 32 (vi 5 i))) := by
  obtain ⟨p, cap, hv, _⟩ := ownsRow_slice hown
  subst hv
  go_enter Tryd.func28, Tryd.ntmps28
  go_wp2_with (go_at_call 44; refine (vi_first _ l 5 i _ hown (by omega) hi hl).mono ?_; rintro e w1 ⟨g1, n1, cap1, b, r, rfl, h1, hbr, hb, cB, fB, s1, s2⟩)
  go_ret
  refine ⟨_, rfl, ?_⟩
  rw [hbr]
  have := h1.orFirst 32 (show b.toNat + 32 < 256 by have : b.toNat < 32 := hb; omega) _ (or_first (n := 5) (first := 32) hb rfl (by omega) (by omega))
  exact this
set_option maxRecDepth 100000 in
set_option maxHeartbeats 1000000 in
theorem app_indexed (v : Value) (l : List UInt8) (i : Nat) (w : World) (hown : Bts w v l) (hi : i < 4294967296) (hl : l.length + 4 ≤ 4294967296) :
    Calls Tryd.prog 30 #[v, .int .u64 i] w (RetApp w v (l ++ orF 128 (vi 7 i))) := by
  obtain ⟨p, cap, hv, _⟩ := ownsRow_slice hown
  subst hv
  go_enter Tryd.func30, Tryd.ntmps30
  go_wp2_with (go_at_call 44; refine (vi_first _ l 7 i _ hown (by omega) hi hl).mono ?_; rintro e w1 ⟨g1, n1, cap1, b, r, rfl, h1, hbr, hb, cB, fB, s1, s2⟩)
  go_ret
  refine ⟨_, rfl, ?_⟩
  rw [hbr]
  have := h1.orFirst 128 (show b.toNat + 128 < 256 by have : b.toNat < 128 := hb; omega) _ (or_first (n := 7) (first := 128) hb rfl (by omega) (by omega))
  exact this

/-- a string as written -/
noncomputable def encStr (s : ByteArray) : List UInt8 :=
  if (hN (bl s) + 7) / 8 < s.size then orF 128 (vi 7 ((hN (bl s) + 7) / 8)) ++ huff s else vi 7 s.size ++ bl s
theorem cont_len : ∀ k j, j < 128 ^ (k + 1) → (cont j).length ≤ k + 1
  | 0, j, h => by rw [cont_small (by omega)]; simp
  | k + 1, j, h => by
    by_cases hj : j < 128
    · rw [cont_small hj]; simp
    · rw [cont_big hj]
      have := cont_len k (j / 128) (by rw [Nat.div_lt_iff_lt_mul (by omega), ← Nat.pow_succ]; exact h)
      simp; omega
theorem vi_len (n i : Nat) (hi : i < 4294967296) : (vi n i).length ≤ 6 := by
  unfold vi
  split
  · simp
  · have := cont_len 4 (i - (2 ^ n - 1)) (by omega)
    simp; omega
theorem orF_len (first : Nat) (l : List UInt8) : (orF first l).length = l.length := by cases l <;> rfl
theorem huff_len (s : ByteArray) : (huff s).length = (hN (bl s) + 7) / 8 := by unfold huff; rw [be_length]
theorem bl_len (s : ByteArray) : (bl s).length = s.size := by unfold bl; simp
theorem encStr_len (s : ByteArray) (h : s.size ≤ 4000000) : (encStr s).length ≤ s.size + 6 := by
  unfold encStr
  split
  · have := vi_len 7 ((hN (bl s) + 7) / 8) (by omega)
    rw [List.length_append, orF_len, huff_len]; omega
  · have := vi_len 7 s.size (by omega)
    rw [List.length_append, bl_len]; omega

theorem AppTo.first {w w1 : World} {v v1 : Value} {l r : List UInt8} {b : UInt8} (h : AppTo w w1 v v1 (l ++ b :: r)) : ∃ g n1 cap, v1 = .slice (some ⟨g, 0, none⟩) n1 cap ∧ w1.cell? ⟨g, l.length, none⟩ = some (.int .u8 b.toNat) ∧ w1.frozen? ⟨g, l.length, none⟩ = false ∧ (l.length : Int) < (n1 : Int) ∧ n1 ≤ maxLen := by
  obtain ⟨p, cap, hv, hle, hm⟩ := ownsRow_slice h.own
  obtain ⟨g, cap1, hv1, hc, hf, hcap1⟩ := h.own.parts (by simp <;> omega)
  subst hv
  cases hv1
  exact ⟨g, _, cap, rfl, hc l.length b (by simp), hf _, by simp <;> omega, by omega⟩
theorem AppTo.off {w w1 : World} {v v1 : Value} {l : List UInt8} {k : Nat} (h : AppTo w w1 v v1 l) (hv : v.ownBlock ≠ some k) (hk : k < w.heap.size) : v1.ownBlock ≠ some k := by
  rcases h.blk with e | ⟨g, e, hg⟩
  · rw [e]; exact hv
  · rw [e]; intro e2; cases e2; omega
theorem Glob.lt {w : World} (h : Glob w) : 4 < w.heap.size ∧ 5 < w.heap.size :=
  ⟨World.block_lt_of_cell? w _ (h.hl 0), World.block_lt_of_cell? w _ (h.hc 0)⟩
theorem Glob.app {w w1 : World} {v v1 : Value} {l : List UInt8} (h : Glob w) (k : AppTo w w1 v v1 l) (hv4 : v.ownBlock ≠ some 4) (hv5 : v.ownBlock ≠ some 5) : Glob w1 :=
  h.kept k.kept (by simpa using fun e => hv4 e) (by simpa using fun e => hv5 e)
/-- 'append(dst, s...)' -/
theorem app_bytes (W : World) {ops : Array Oper} {rest : List Oper} {o : Oper} {a : Act} {Q : Exit → Act → World → Prop} (hgd : o.guard = none) (d x : Operand)
    (ho : o.op = .call { callee := .builtin .append, args := #[d, x], argTypes := #[31, 9] }) (v : Value) (l : List UInt8) (hsv : a.eval d = v) (hown : Bts W v l) (s : ByteArray) (hx : a.eval x = .string s) (hlen : l.length + s.size ≤ 140737488355328)
    (h : ∀ v' w', AppTo W w' v v' (l ++ bl s) → wpList Tryd.prog ops Q rest (a.put o.dst v') w') : wpList Tryd.prog ops Q (o :: rest) a W := by
  obtain ⟨i0, hi0, hz0, hz1, hz2⟩ := info_parts info5
  refine wpList_app _ hgd d x 31 9 ho 5 i0 _ 1 1 Tryd.underlying31 hi0 hz0 hz1 hz2 rfl v l.length (bc l) hsv hown _ hx s.size (bc (bl s)) (Src.ofString W Tryd.underlying9 s) (by unfold maxLen; omega) (by omega) ?_
  intro v' w' h1 h2 h3 h4
  refine h v' w' ⟨?_, h2, h3⟩
  unfold Bts; rw [List.length_append, bl_len, bc_append]; exact h1
set_option maxRecDepth 100000 in
set_option maxHeartbeats 1000000 in
theorem app_str (v : Value) (l : List UInt8) (s : ByteArray) (w : World) (hg : Glob w) (hv4 : v.ownBlock ≠ some 4) (hv5 : v.ownBlock ≠ some 5) (hown : Bts w v l) (hs : s.size ≤ 4000000) (hl : l.length ≤ 4200000000) :
    Calls Tryd.prog 51 #[v, .string s] w (RetApp w v (l ++ encStr s)) := by
  obtain ⟨p, cap, hv, hle, hm⟩ := ownsRow_slice hown
  have hN2 := hN_le (bl s)
  have hbl := bl_len s
  have hgl := hg.lt
  subst hv
  by_cases hlt : (hN (bl s) + 7) / 8 < s.size
  · have hres : encStr s = orF 128 (vi 7 ((hN (bl s) + 7) / 8)) ++ huff s := by unfold encStr; rw [if_pos hlt]
    have hhl := huff_len s
    obtain ⟨q, hq⟩ : ∃ q, (hN (bl s) + 7) / 8 = q := ⟨_, rfl⟩
    rw [hq] at hlt hres hhl
    have hb : decide ((q : Int) < (s.size : Int)) = true := by simp; omega
    have hvl := vi_len 7 q (by omega)
    have HR := Lib.hid hres; clear hres
    have HHL := Lib.hid hhl; clear hhl
    go_enter Tryd.func51, Tryd.ntmps51
    go_wp2_with (first
      | (go_at_call 59; refine (hlen_any s _ hg hs).mono ?_; rw [hq]; rintro e w' ⟨rfl, rfl⟩)
      | (go_at_call 44; refine (vi_first _ l 7 q _ hown (by omega) (by omega) (by omega)).mono ?_; rintro e w1 ⟨g1, n1, cap1, b, r, rfl, h1, hbr, hb1, cB, fB, s1, s2⟩)
      | (go_at_call 60; refine (huff_any _ (l ++ b :: r) s _ (hg.app h1 hv4 hv5) (h1.off hv4 hgl.1) (h1.off hv5 hgl.2) h1.own hs (by rw [← hbr]; simp; omega)).mono ?_; rintro e w2 ⟨v2, rfl, h2⟩; have h3 := h1.trans h2; rw [List.append_assoc, List.cons_append] at h3; obtain ⟨g3, n3, cap3, rfl, cC, fC, s3, s4⟩ := h3.first))
    go_ret
    refine ⟨_, rfl, ?_⟩
    have := h3.orFirst 128 (show b.toNat + 128 < 256 by have : b.toNat < 128 := hb1; omega) _ (or_first (n := 7) (first := 128) hb1 rfl (by omega) (by omega))
    rw [HR.out, hbr]
    exact this
  · have hres : encStr s = vi 7 s.size ++ bl s := by unfold encStr; rw [if_neg hlt]
    obtain ⟨q, hq⟩ : ∃ q, (hN (bl s) + 7) / 8 = q := ⟨_, rfl⟩
    rw [hq] at hlt
    have hb : decide ((q : Int) < (s.size : Int)) = false := by simp; omega
    have hvl := vi_len 7 s.size (by omega)
    have HR := Lib.hid hres; clear hres
    go_enter Tryd.func51, Tryd.ntmps51
    go_wp2_with (first
      | (go_at_call 59; refine (hlen_any s _ hg hs).mono ?_; rw [hq]; rintro e w' ⟨rfl, rfl⟩)
      | (go_at_call 44; refine (vi_any _ l 7 s.size _ hown (by omega) (by omega) (by omega)).mono ?_; rintro e w1 ⟨v1, rfl, h1⟩)
      | (at_builtin; go_must (refine app_bytes _ rfl _ _ rfl _ _ rfl h1.own s rfl (by rw [List.length_append]; omega) ?_; intro v2 w2 h2)))
    go_ret
    refine ⟨_, rfl, ?_⟩
    have := h1.trans h2
    rw [HR.out, ← List.append_assoc]
    exact this

theorem AppTo.keepBlk {w w1 : World} {v v1 : Value} {l : List UInt8} {k : Nat} {cs : List Value} {ty : TypeId} (h : AppTo w w1 v v1 l) (B : Blk w k cs ty) (hv : v.ownBlock ≠ some k) : Blk w1 k cs ty :=
  B.kept h.kept (by simpa using fun e => hv e)
set_option maxRecDepth 100000 in
set_option maxHeartbeats 1000000 in
theorem app_new (v : Value) (l : List UInt8) (f : Fld) (ix : Bool) (w : World) (hg : Glob w) (hv4 : v.ownBlock ≠ some 4) (hv5 : v.ownBlock ≠ some 5) (hown : Bts w v l) (hs : f.name.size + f.value.size ≤ 4000000) (hl : l.length ≤ 4100000000) :
    Calls Tryd.prog 33 #[v, .agg #[.string f.name, .string f.value, .bool f.sens], .bool ix] w (RetApp w v (l ++ b8 (typeByte ix f.sens) :: (encStr f.name ++ encStr f.value))) := by
  have hgl := hg.lt
  have hle1 := encStr_len f.name (by omega)
  have hT : typeByte ix f.sens < 256 := by unfold typeByte; split <;> (try split) <;> omega
  go_enter Tryd.func33, Tryd.ntmps33
  go_upto_region 1 with (fail)
  generalize hw1 : w.alloc _ = w1
  obtain ⟨k1, X1, hx1⟩ := box_cells (l := fc f) hw1
  have hA : AppTo w w1 v v l := ⟨ownsRow_kept hown k1 (by simp), k1.mono (by simp), .inl rfl⟩
  have hxv : ∀ g, v.ownBlock = some g → g ≠ w.heap.size := fun g hg => by have := (hown.lt _ hg).2; omega
  have hg1 := hg.kept k1 (by simp) (by simp)
  have hgl1 := hg1.lt
  clear hgl
  have vx : v.ownBlock ≠ some w.heap.size := fun e => hxv _ e rfl
  clear hxv
  generalize hxe : w.heap.size = xb at X1 hx1 vx ⊢
  have HW := Lib.hid hw1; clear hw1
  have HX := Lib.hid hxe; clear hxe
  have x2 := X1.cell 2 rfl
  have HH := Lib.hid hA; clear hA
  go_upto_region 2 with (first
    | (go_at_call 50; refine (tbyte_any ix f.sens _).mono ?_; rintro e w' ⟨rfl, rfl⟩)
    | (at_builtin; go_must (refine app_lit _ rfl _ _ rfl _ l rfl HH.out.own _ 1 rfl [b8 (typeByte ix f.sens)] (by simp only [bc, List.map_cons, List.map_nil]; rw [b8_int hT]) rfl (by omega) ?_; intro v2 w2 h2 h2')))
  have X2 := h2.keepBlk X1 vx
  have y0 := X2.cell 0 rfl
  have y1 := X2.cell 1 rfl
  have g2 := hg1.app h2 hv4 hv5
  have o4 := h2.off hv4 hgl1.1
  have o5 := h2.off hv5 hgl1.2
  clear x2
  go_upto_region 3 with ((go_at_call 51; go_must (refine (app_str _ (l ++ [b8 (typeByte ix f.sens)]) f.name _ g2 o4 o5 h2.own (by omega) (by simp; omega)).mono ?_; rintro e w3 ⟨v3, rfl, h3⟩)))
  have h4 := h2.trans h3
  have X3 := h4.keepBlk X1 vx
  have z1 := X3.cell 1 rfl
  have g3 := hg1.app h4 hv4 hv5
  have o4 := h4.off hv4 hgl1.1
  have o5 := h4.off hv5 hgl1.2
  clear y0 y1
  go_wp2_with ((go_at_call 51; go_must (refine (app_str _ (l ++ [b8 (typeByte ix f.sens)] ++ encStr f.name) f.value _ g3 o4 o5 h4.own (by omega) (by simp; omega)).mono ?_; rintro e w5 ⟨v5, rfl, h5⟩)))
  go_ret
  refine ⟨_, rfl, ?_⟩
  have h6 := HH.out.trans (h4.trans h5)
  simpa using h6

set_option maxRecDepth 100000 in
set_option maxHeartbeats 1000000 in
theorem app_named (v : Value) (l : List UInt8) (f : Fld) (i : Nat) (ix : Bool) (w : World) (hg : Glob w) (hv4 : v.ownBlock ≠ some 4) (hv5 : v.ownBlock ≠ some 5) (hown : Bts w v l) (hs : f.name.size + f.value.size ≤ 4000000) (hi : i < 4294967296) (hl : l.length ≤ 4100000000) (hix : ix = true → f.sens = false) :
    Calls Tryd.prog 34 #[v, .agg #[.string f.name, .string f.value, .bool f.sens], .int .u64 i, .bool ix] w (RetApp w v (l ++ (orF (typeByte ix f.sens) (vi (if ix then 6 else 4) i) ++ encStr f.value))) := by
  obtain ⟨p, cap, hv, hle, hm⟩ := ownsRow_slice hown
  subst hv
  have hgl := hg.lt
  have hv1 := vi_len 6 i hi
  have hv2 := vi_len 4 i hi
  obtain ⟨n, first, hn, hfi, hnn, hf1, hf2⟩ : ∃ n first, (if ix then 6 else 4) = n ∧ typeByte ix f.sens = first ∧ (n = 4 ∨ n = 5 ∨ n = 6 ∨ n = 7) ∧ first % 2 ^ n = 0 ∧ first + 2 ^ n ≤ 256 := by
    cases ix
    · exact ⟨4, _, rfl, rfl, by omega, by unfold typeByte; cases f.sens <;> rfl, by unfold typeByte; cases f.sens <;> decide⟩
    · rw [hix rfl]; exact ⟨6, 64, rfl, rfl, by omega, rfl, by decide⟩
  rw [hn, hfi]
  have hvl : (vi n i).length ≤ 6 := vi_len n i hi
  have HN := Lib.hid hn; clear hn
  go_enter Tryd.func34, Tryd.ntmps34
  go_upto_region 1 with (fail)
  generalize hw1 : w.alloc _ = w1
  obtain ⟨k1, X1, hx1⟩ := box_cells (l := fc f) hw1
  have hA : AppTo w w1 (.slice p l.length cap) (.slice p l.length cap) l := ⟨ownsRow_kept hown k1 (by simp), k1.mono (by simp), .inl rfl⟩
  have hxv : ∀ g, Value.ownBlock (.slice p l.length cap) = some g → g ≠ w.heap.size := fun g hg => by have := (hown.lt _ hg).2; omega
  have hg1 := hg.kept k1 (by simp) (by simp)
  have hgl1 := hg1.lt
  clear hgl
  have vx : Value.ownBlock (.slice p l.length cap) ≠ some w.heap.size := fun e => hxv _ e rfl
  clear hxv
  generalize hxe : w.heap.size = xb at X1 hx1 vx ⊢
  have HW := Lib.hid hw1; clear hw1
  have HX := Lib.hid hxe; clear hxe
  have HH := Lib.hid hA; clear hA
  have hh := HH.out.own
  cases ix
  · have hn : n = 4 := by rw [← HN.out]; rfl
    subst hn
    go_upto_region 7 with ((go_at_call 44; go_must (refine (vi_first _ l 4 i _ hh (by omega) hi (by omega)).mono ?_; rintro e w2 ⟨g2, n2, cap2, b, r, rfl, h2, hbr, hb, cB, fB, s1, s2⟩)))
    have X2 := h2.keepBlk X1 vx
    have x2 := X2.cell 2 rfl
    have hcx : ¬ (g2 = xb) := fun e => h2.off vx hx1 (by rw [← e]; rfl)
    have g2' := hg1.app h2 hv4 hv5
    have o4 := h2.off hv4 hgl1.1
    have o5 := h2.off hv5 hgl1.2
    have hb2 : b.toNat < 2 ^ 4 := hb
    have hbf : b.toNat + first < 256 := by simp at hb2 hf2; omega
    have hor : bits .or .u8 (b.toNat : Int) (first : Int) = ((b.toNat + first : Nat) : Int) := or_first hb hf1 (by simp at hf2; omega) (by omega)
    have HB := Lib.hid hb; clear hb hb2
    have HBR := Lib.hid hbr; clear hbr
    go_cut [0, 5] (fun s0 s5 wx => s5 = .pointer (some ⟨xb, 0, none⟩) ∧ s0 = .slice (some ⟨g2, 0, none⟩) n2 cap2 ∧ AppTo w1 wx (.slice p l.length cap) (.slice (some ⟨g2, 0, none⟩) n2 cap2) (l ++ orF first (b :: r)))
    case first =>
      go_region_with ((go_at_call 50; refine (tbyte_any false f.sens _).mono ?_; rw [hfi]; rintro e w' ⟨rfl, rfl⟩))
      all_goals
        go_wp2_with fail
        go_meet
        case rel => exact ⟨rfl, rfl, (h2.drew).orFirst first hbf _ (by first | exact hor | omega)⟩
    case rest =>
      obtain ⟨rfl, rfl, h3⟩ := hcut
      have X3 := h3.keepBlk X1 vx
      have z1 := X3.cell 1 rfl
      have g3 := hg1.app h3 hv4 hv5
      have o4 := h3.off hv4 hgl1.1
      have o5 := h3.off hv5 hgl1.2
      have hll : (l ++ orF first (b :: r)).length ≤ 4200000000 := by rw [List.length_append, orF_len, ← HBR.out]; omega
      go_wp2_with ((go_at_call 51; go_must (refine (app_str _ _ f.value _ g3 o4 o5 h3.own (by omega) hll).mono ?_; rintro e w5 ⟨v5, rfl, h5⟩)))
      go_ret
      refine ⟨_, rfl, ?_⟩
      rw [HBR.out, ← List.append_assoc]
      exact HH.out.trans (h3.trans h5)
  · have hn : n = 6 := by rw [← HN.out]; rfl
    subst hn
    have hse := hix rfl
    clear hix
    rw [hse] at hfi
    go_upto_region 7 with ((go_at_call 44; go_must (refine (vi_first _ l 6 i _ hh (by omega) hi (by omega)).mono ?_; rintro e w2 ⟨g2, n2, cap2, b, r, rfl, h2, hbr, hb, cB, fB, s1, s2⟩)))
    have X2 := h2.keepBlk X1 vx
    have x2 := X2.cell 2 rfl
    have hcx : ¬ (g2 = xb) := fun e => h2.off vx hx1 (by rw [← e]; rfl)
    have g2' := hg1.app h2 hv4 hv5
    have o4 := h2.off hv4 hgl1.1
    have o5 := h2.off hv5 hgl1.2
    have hb2 : b.toNat < 2 ^ 6 := hb
    have hbf : b.toNat + first < 256 := by simp at hb2 hf2; omega
    have hor : bits .or .u8 (b.toNat : Int) (first : Int) = ((b.toNat + first : Nat) : Int) := or_first hb hf1 (by simp at hf2; omega) (by omega)
    have HB := Lib.hid hb; clear hb hb2
    have HBR := Lib.hid hbr; clear hbr
    go_cut [0, 5] (fun s0 s5 wx => s5 = .pointer (some ⟨xb, 0, none⟩) ∧ s0 = .slice (some ⟨g2, 0, none⟩) n2 cap2 ∧ AppTo w1 wx (.slice p l.length cap) (.slice (some ⟨g2, 0, none⟩) n2 cap2) (l ++ orF first (b :: r)))
    case first =>
      go_region_with ((go_at_call 50; refine (tbyte_any true false _).mono ?_; rw [hfi]; rintro e w' ⟨rfl, rfl⟩))
      all_goals
        go_wp2_with fail
        go_meet
        case rel => exact ⟨rfl, rfl, (h2.drew).orFirst first hbf _ (by first | exact hor | omega)⟩
    case rest =>
      obtain ⟨rfl, rfl, h3⟩ := hcut
      have X3 := h3.keepBlk X1 vx
      have z1 := X3.cell 1 rfl
      have g3 := hg1.app h3 hv4 hv5
      have o4 := h3.off hv4 hgl1.1
      have o5 := h3.off hv5 hgl1.2
      have hll : (l ++ orF first (b :: r)).length ≤ 4200000000 := by rw [List.length_append, orF_len, ← HBR.out]; omega
      go_wp2_with ((go_at_call 51; go_must (refine (app_str _ _ f.value _ g3 o4 o5 h3.own (by omega) hll).mono ?_; rintro e w5 ⟨v5, rfl, h5⟩)))
      go_ret
      refine ⟨_, rfl, ?_⟩
      rw [HBR.out, ← List.append_assoc]
      exact HH.out.trans (h3.trans h5)
end Go.Proofs.YtoceghdnipjkfaaDoor
