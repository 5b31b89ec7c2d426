/-
  The bits of a Huffman text, in plain numbers: what the reader of the tree sees at each place.
-/
import Derived.Test.YtoceghdnipjkfaaDoorTrie
namespace Go.Proofs.YtoceghdnipjkfaaDoor
open Go.RowKit

/-- the padding of n bits -/
def pad (n : Nat) : Nat := (8 - n % 8) % 8
/-- the text's bits as one number, and how many bytes it fills -/
noncomputable def hM (l : List UInt8) : Nat := hV l * 2 ^ pad (hN l) + (2 ^ pad (hN l) - 1)
noncomputable def hLen (l : List UInt8) : Nat := (hN l + 7) / 8
theorem huff_eq (s : ByteArray) : huff s = be (hLen (bl s)) (hM (bl s)) := rfl
theorem hLen_eq (l : List UInt8) : 8 * hLen l = hN l + pad (hN l) := by unfold hLen pad; omega
theorem pad_le (n : Nat) : pad n ≤ 7 := by unfold pad; omega

theorem hN_append (a b : List UInt8) : hN (a ++ b) = hN a + hN b := by simp [hN]
theorem hN_cons (c : UInt8) (r : List UInt8) : hN (c :: r) = hl c + hN r := by simp [hN]
theorem hV_lt (l : List UInt8) : ∀ v n, v < 2 ^ n → l.foldl (fun v b => v * 2 ^ hl b + hc b) v < 2 ^ (n + hN l) := by
  induction l with
  | nil => intro v n h; simpa [hN] using h
  | cons c r ih =>
    intro v n h
    rw [List.foldl_cons, hN_cons, ← Nat.add_assoc]
    refine ih _ _ ?_
    have h1 := hc_lt c
    have h2 : (v + 1) * 2 ^ hl c ≤ 2 ^ n * 2 ^ hl c := Nat.mul_le_mul_right _ h
    rw [Nat.pow_add]; rw [Nat.add_mul, Nat.one_mul] at h2; omega
theorem hV_lt0 (l : List UInt8) : hV l < 2 ^ hN l := by
  have := hV_lt l 0 0 (by decide)
  rwa [Nat.zero_add] at this
theorem hV_fold (l : List UInt8) : ∀ v, l.foldl (fun v b => v * 2 ^ hl b + hc b) v = v * 2 ^ hN l + hV l := by
  induction l with
  | nil => intro v; simp [hN, hV]
  | cons c r ih =>
    intro v
    have h0 : hV (c :: r) = (0 * 2 ^ hl c + hc c) * 2 ^ hN r + hV r := by
      show (c :: r).foldl _ 0 = _
      rw [List.foldl_cons, ih]
    rw [List.foldl_cons, ih, hN_cons, h0, Nat.pow_add, Nat.zero_mul, Nat.zero_add, Nat.add_mul, Nat.mul_assoc, Nat.add_assoc]
theorem hV_append (a b : List UInt8) : hV (a ++ b) = hV a * 2 ^ hN b + hV b := by
  show (a ++ b).foldl _ 0 = _
  rw [List.foldl_append, hV_fold]; rfl
theorem hV_cons (c : UInt8) (r : List UInt8) : hV (c :: r) = hc c * 2 ^ hN r + hV r := by
  have : hV ([c] ++ r) = _ := hV_append [c] r
  rw [show hV [c] = hc c from by simp [hV]] at this
  exact this
theorem hM_lt (l : List UInt8) : hM l < 256 ^ hLen l := by
  have h1 := hV_lt0 l
  have h2 : (hV l + 1) * 2 ^ pad (hN l) ≤ 2 ^ hN l * 2 ^ pad (hN l) := Nat.mul_le_mul_right _ h1
  have hp := Nat.two_pow_pos (pad (hN l))
  rw [Nat.add_mul, Nat.one_mul, ← Nat.pow_add, ← hLen_eq, Nat.pow_mul] at h2
  have : hM l = hV l * 2 ^ pad (hN l) + (2 ^ pad (hN l) - 1) := rfl
  rw [this]
  have e : (2 : Nat) ^ 8 = 256 := rfl
  rw [e] at h2
  omega

/-- at symbol c, behind the symbols a: M = (A * 2^L + C) * 2^q + R -/
theorem hM_split (a : List UInt8) (c : UInt8) (r : List UInt8) : ∃ R, R < 2 ^ (hN r + pad (hN (a ++ c :: r))) ∧ hM (a ++ c :: r) = (hV a * 2 ^ hl c + hc c) * 2 ^ (hN r + pad (hN (a ++ c :: r))) + R := by
  generalize hp : pad (hN (a ++ c :: r)) = p
  refine ⟨hV r * 2 ^ p + (2 ^ p - 1), ?_, ?_⟩
  · have h2 : (hV r + 1) * 2 ^ p ≤ 2 ^ hN r * 2 ^ p := Nat.mul_le_mul_right _ (hV_lt0 r)
    have hpp := Nat.two_pow_pos p
    rw [Nat.pow_add]; rw [Nat.add_mul, Nat.one_mul] at h2; omega
  · unfold hM
    rw [hp, hV_append, hV_cons, hN_cons, Nat.pow_add, Nat.pow_add]
    have : (hV a * (2 ^ hl c * 2 ^ hN r) + (hc c * 2 ^ hN r + hV r)) * 2 ^ p = (hV a * 2 ^ hl c + hc c) * (2 ^ hN r * 2 ^ p) + hV r * 2 ^ p := by
      rw [← Nat.mul_assoc, ← Nat.mul_assoc, ← Nat.add_assoc, ← Nat.add_mul, ← Nat.add_mul, Nat.add_mul]
    omega

theorem pow_split {a b : Nat} (h : a ≤ b) : (2 : Nat) ^ b = 2 ^ (b - a) * 2 ^ a := by rw [← Nat.pow_add, Nat.sub_add_cancel h]
/-- eight bits inside a code -/
theorem bits_in (A C L q R e : Nat) (hR : R < 2 ^ q) (he : e + 8 ≤ L) : ((A * 2 ^ L + C) * 2 ^ q + R) / 2 ^ (e + q) % 256 = C / 2 ^ e % 256 := by
  rw [Nat.add_comm e q, Nat.pow_add, ← Nat.div_div_eq_div_mul, Nat.add_comm (_ * _) R, Nat.add_mul_div_right _ _ (Nat.two_pow_pos q), Nat.div_eq_of_lt hR, Nat.zero_add]
  rw [show (2 : Nat) ^ L = 2 ^ (L - (e + 8)) * 256 * 2 ^ e from by
    rw [show (256 : Nat) = 2 ^ 8 from rfl, ← Nat.pow_add, ← Nat.pow_add]; congr 1; omega]
  rw [← Nat.mul_assoc, ← Nat.mul_assoc, Nat.add_comm (_ * _) C, Nat.add_mul_div_right _ _ (Nat.two_pow_pos e), Nat.add_mul_mod_self_right]
theorem leaf_mod (A C L e tt : Nat) (h8 : 8 ≤ L + e) (he : e ≤ 8) (ht : tt < 2 ^ e) : ((A * 2 ^ L + C) * 2 ^ e + tt) % 256 = C * 2 ^ e % 256 + tt := by
  have e1 : (A * 2 ^ L + C) * 2 ^ e + tt = C * 2 ^ e + tt + A * 2 ^ (L + e - 8) * 256 := by
    have : A * 2 ^ (L + e - 8) * 256 = A * 2 ^ L * 2 ^ e := by
      rw [show (256 : Nat) = 2 ^ 8 from rfl, Nat.mul_assoc, Nat.mul_assoc, ← Nat.pow_add, ← Nat.pow_add]; congr 2; omega
    rw [this, Nat.add_mul]; omega
  rw [e1, Nat.add_mul_mod_self_right]
  have h256 : (256 : Nat) = 2 ^ (8 - e) * 2 ^ e := by rw [show (256 : Nat) = 2 ^ 8 from rfl]; exact pow_split he
  have hm : C % 2 ^ (8 - e) < 2 ^ (8 - e) := Nat.mod_lt _ (Nat.two_pow_pos _)
  have hle : (C % 2 ^ (8 - e) + 1) * 2 ^ e ≤ 2 ^ (8 - e) * 2 ^ e := Nat.mul_le_mul_right _ hm
  rw [← h256, Nat.add_mul, Nat.one_mul] at hle
  have e2 : C * 2 ^ e = C % 2 ^ (8 - e) * 2 ^ e + C / 2 ^ (8 - e) * 256 := by
    conv => lhs; rw [← Nat.mod_add_div C (2 ^ (8 - e))]
    rw [Nat.add_mul, h256]
    congr 1
    rw [← Nat.mul_assoc, Nat.mul_comm (2 ^ (8 - e))]
  rw [e2, Nat.add_mul_mod_self_right, Nat.mod_eq_of_lt (by omega : C % 2 ^ (8 - e) * 2 ^ e < 256), show C % 2 ^ (8 - e) * 2 ^ e + C / 2 ^ (8 - e) * 256 + tt = C % 2 ^ (8 - e) * 2 ^ e + tt + C / 2 ^ (8 - e) * 256 from by omega, Nat.add_mul_mod_self_right, Nat.mod_eq_of_lt (by omega)]
/-- a code's last bits, more bits behind -/
theorem bits_leaf (A C L q R e : Nat) (hR : R < 2 ^ q) (heq : e ≤ q) (h8 : 8 ≤ L + e) (he : e ≤ 8) : ∃ tt, tt < 2 ^ e ∧ ((A * 2 ^ L + C) * 2 ^ q + R) / 2 ^ (q - e) % 256 = C * 2 ^ e % 256 + tt := by
  refine ⟨R / 2 ^ (q - e), ?_, ?_⟩
  · rw [Nat.div_lt_iff_lt_mul (Nat.two_pow_pos _), ← Nat.pow_add, show e + (q - e) = q from by omega]; exact hR
  · have e1 : (A * 2 ^ L + C) * 2 ^ q + R = R + (A * 2 ^ L + C) * 2 ^ e * 2 ^ (q - e) := by
      rw [Nat.mul_assoc _ (2 ^ e), ← Nat.pow_add, show e + (q - e) = q from by omega]; omega
    rw [e1, Nat.add_mul_div_right _ _ (Nat.two_pow_pos _), Nat.add_comm, leaf_mod _ _ _ _ _ h8 he]
    rw [Nat.div_lt_iff_lt_mul (Nat.two_pow_pos _), ← Nat.pow_add, show e + (q - e) = q from by omega]; exact hR
/-- a code's last bits, fewer than a byte left -/
theorem bits_tail (A C L q R e : Nat) (hR : R < 2 ^ q) (heq : q ≤ e) (h8 : 8 ≤ L + e) (he : e ≤ 8) : ∃ tt, tt < 2 ^ e ∧ ((A * 2 ^ L + C) * 2 ^ q + R) * 2 ^ (e - q) % 256 = C * 2 ^ e % 256 + tt := by
  have hlt : R * 2 ^ (e - q) < 2 ^ e := by
    rw [show (2 : Nat) ^ e = 2 ^ q * 2 ^ (e - q) from by rw [← Nat.pow_add]; congr 1; omega]
    exact Nat.mul_lt_mul_of_pos_right hR (Nat.two_pow_pos _)
  refine ⟨_, hlt, ?_⟩
  rw [Nat.add_mul, Nat.mul_assoc _ (2 ^ q), ← Nat.pow_add, show q + (e - q) = e from by omega, leaf_mod _ _ _ _ _ h8 he hlt]
theorem pad_tail (V p : Nat) (hp : p ≤ 8) : (V * 2 ^ p + (2 ^ p - 1)) * 2 ^ (8 - p) % 256 = (2 ^ p - 1) * 2 ^ (8 - p) := by
  have h256 : (256 : Nat) = 2 ^ p * 2 ^ (8 - p) := by rw [show (256 : Nat) = 2 ^ 8 from rfl, ← Nat.pow_add]; congr 1; omega
  rw [Nat.add_mul, Nat.mul_assoc, ← h256, Nat.add_comm, Nat.add_mul_mod_self_right, Nat.mod_eq_of_lt]
  rw [h256]
  exact Nat.mul_lt_mul_of_pos_right (by have := Nat.two_pow_pos p; omega) (Nat.two_pow_pos _)

theorem path_ok (c : UInt8) {d : Nat} (hd : d < 4) : okAt c.toNat (hc c) (hl c) d = true := by
  have h1 := List.all_eq_true.1 paths_ok c.toNat (List.mem_range.2 c.toNat_lt)
  exact List.all_eq_true.1 h1 d (List.mem_range.2 hd)
theorem node_step (c : UInt8) {d : Nat} (h : 8 * (d + 1) < hl c) : child (nodeAt (hc c) (hl c) d) (hc c / 2 ^ (hl c - 8 * (d + 1)) % 256) = 257 + nodeAt (hc c) (hl c) (d + 1) ∧ nodeAt (hc c) (hl c) (d + 1) < 15 := by
  have hb := hl_le c
  have h1 := path_ok c (d := d) (by omega)
  unfold okAt at h1
  rw [if_pos h, Bool.and_eq_true, trieL_len] at h1
  exact ⟨of_decide_eq_true h1.1, of_decide_eq_true h1.2⟩
theorem leaf_step (c : UInt8) {d tt : Nat} (h : hl c ≤ 8 * (d + 1)) (h2 : 8 * d < hl c) (ht : tt < 2 ^ (8 * (d + 1) - hl c)) : child (nodeAt (hc c) (hl c) d) (hc c * 2 ^ (8 * (d + 1) - hl c) % 256 + tt) = c.toNat + 1 := by
  have hb := hl_le c
  have h1 := path_ok c (d := d) (by omega)
  unfold okAt at h1
  rw [if_neg (by omega), if_pos h2] at h1
  exact of_decide_eq_true (List.all_eq_true.1 h1 tt (List.mem_range.2 ht))
theorem node_lt (c : UInt8) {d : Nat} (h : 8 * d < hl c) : nodeAt (hc c) (hl c) d < 15 := by
  cases d with
  | zero => show 0 < 15; decide
  | succ d => exact (node_step c h).2
theorem pad_ok {p : Nat} (h1 : 1 ≤ p) (h2 : p ≤ 7) : ∃ ch, child 0 ((2 ^ p - 1) * 2 ^ (8 - p)) = ch ∧ ch ≠ 0 ∧ (257 ≤ ch ∨ p < (hlenL.getD (ch - 1) 0 - 1) % 8 + 1) := by
  have h := List.all_eq_true.1 pads_ok (p - 1) (List.mem_range.2 (by omega))
  rw [show p - 1 + 1 = p from by omega] at h
  unfold padOk at h
  simp only [Bool.and_eq_true, Bool.or_eq_true, decide_eq_true_eq] at h
  exact ⟨_, rfl, h.1, h.2⟩

/-- behind j bytes: t symbols are read, and d bytes of the next -/
structure HSt (l : List UInt8) (j t d : Nat) : Prop where
  t_le : t ≤ l.length
  d_lt : t < l.length → 8 * d < hl (l.getD t 0)
  z : t = l.length → d = 0
  c : hN (l.take t) + 8 * d ≤ 8 * j
  j_le : j ≤ hLen l
noncomputable def hNode (l : List UInt8) (t d : Nat) : Nat := nodeAt (hc (l.getD t 0)) (hl (l.getD t 0)) d
theorem hNode_zero (l : List UInt8) (t : Nat) : hNode l t 0 = 0 := rfl
theorem HSt.node {l : List UInt8} {j t d : Nat} (h : HSt l j t d) : hNode l t d < 15 := by
  by_cases e : t = l.length
  · have := h.z e; subst this; show 0 < 15; decide
  · exact node_lt _ (h.d_lt (by have := h.t_le; omega))
theorem split_at {l : List UInt8} {t : Nat} (h : t < l.length) : l = l.take t ++ l.getD t 0 :: l.drop (t + 1) := by
  have : l.getD t 0 = l[t] := by rw [List.getD_eq_getElem?_getD, List.getElem?_eq_getElem h]; rfl
  rw [this, ← List.drop_eq_getElem_cons h, List.take_append_drop]
theorem take_at {l : List UInt8} {t : Nat} (h : t < l.length) : l.take (t + 1) = l.take t ++ [l.getD t 0] := by
  have : l.getD t 0 = l[t] := by rw [List.getD_eq_getElem?_getD, List.getElem?_eq_getElem h]; rfl
  rw [this, List.take_add_one, List.getElem?_eq_getElem h]; rfl
theorem hN_total {l : List UInt8} {t : Nat} (h : t < l.length) : hN l = hN (l.take t) + hl (l.getD t 0) + hN (l.drop (t + 1)) := by
  conv => lhs; rw [split_at h]
  rw [hN_append, hN_cons, Nat.add_assoc]

/-- one look, eight bits: an inner node or the symbol's leaf -/
def InStep (l : List UInt8) (j t d idx : Nat) : Prop :=
  t < l.length ∧ idx < 256 ∧ ((child (hNode l t d) idx = 257 + hNode l t (d + 1) ∧ HSt l j t (d + 1))
    ∨ (∃ k, child (hNode l t d) idx = (l.getD t 0).toNat + 1 ∧ (hl (l.getD t 0) - 1) % 8 + 1 = k ∧ k ≤ 8 ∧ HSt l j (t + 1) 0 ∧ hN (l.take (t + 1)) = hN (l.take t) + 8 * d + k))
theorem in_step {l : List UInt8} {j t d cb : Nat} (h : HSt l j t d) (hcb : hN (l.take t) + 8 * d + cb = 8 * j) (h8 : 8 ≤ cb) :
    InStep l j t d (hM l / 256 ^ (hLen l - j) / 2 ^ (cb - 8) % 256) := by
  have hL := hLen_eq l
  have hp := pad_le (hN l)
  have hj := h.j_le
  have htl : t < l.length := by
    apply Nat.lt_of_le_of_ne h.t_le
    intro e
    have := h.z e
    rw [e, List.take_length] at hcb
    omega
  have htot := hN_total htl
  have hd := h.d_lt htl
  have hz : t + 1 = l.length → (0 : Nat) = 0 := fun _ => rfl
  refine ⟨htl, Nat.mod_lt _ (by decide), ?_⟩
  obtain ⟨R, hR, hM⟩ := hM_split (l.take t) (l.getD t 0) (l.drop (t + 1))
  rw [← split_at htl] at hM hR
  generalize hq : hN (l.drop (t + 1)) + pad (hN l) = q at hM hR
  have hpow : 256 ^ (hLen l - j) * 2 ^ (cb - 8) = 2 ^ (8 * (hLen l - j) + (cb - 8)) := by
    rw [Nat.pow_add, Nat.pow_mul]
  rw [Nat.div_div_eq_div_mul, hpow, hM]
  by_cases hin : 8 * (d + 1) < hl (l.getD t 0)
  · left
    have e1 : 8 * (hLen l - j) + (cb - 8) = (hl (l.getD t 0) - 8 * (d + 1)) + q := by omega
    rw [e1, bits_in _ _ _ _ _ _ hR (by omega)]
    refine ⟨(node_step _ hin).1, h.t_le, fun _ => hin, fun e => by omega, by omega, h.j_le⟩
  · right
    have e1 : 8 * (hLen l - j) + (cb - 8) = q - (8 * (d + 1) - hl (l.getD t 0)) := by omega
    rw [e1]
    obtain ⟨tt, h1, h2⟩ := bits_leaf (hV (l.take t)) (hc (l.getD t 0)) (hl (l.getD t 0)) q R (8 * (d + 1) - hl (l.getD t 0)) hR (by omega) (by omega) (by omega)
    rw [h2]
    have hs : hN (l.take (t + 1)) = hN (l.take t) + hl (l.getD t 0) := by rw [take_at htl, hN_snoc]
    refine ⟨hl (l.getD t 0) - 8 * d, leaf_step _ (by omega) hd h1, by omega, by omega, ⟨htl, fun _ => by have := hl_le (l.getD (t + 1) 0); omega, fun _ => rfl, by omega, h.j_le⟩, by omega⟩

/-- one look behind the last byte: the symbol's leaf, or the padding -/
def EndStep (l : List UInt8) (t d cb idx : Nat) : Prop :=
  idx < 256 ∧ ((t < l.length ∧ ∃ k, child (hNode l t d) idx = (l.getD t 0).toNat + 1 ∧ (hl (l.getD t 0) - 1) % 8 + 1 = k ∧ k ≤ cb ∧ HSt l (hLen l) (t + 1) 0 ∧ hN (l.take (t + 1)) = hN (l.take t) + 8 * d + k)
    ∨ (t = l.length ∧ d = 0 ∧ cb = pad (hN l) ∧ ∃ ch, child 0 idx = ch ∧ ch ≠ 0 ∧ (257 ≤ ch ∨ cb < (hlenL.getD (ch - 1) 0 - 1) % 8 + 1)))
theorem end_step {l : List UInt8} {t d cb : Nat} (h : HSt l (hLen l) t d) (hcb : hN (l.take t) + 8 * d + cb = 8 * hLen l) (h8 : cb < 8) (h0 : 0 < cb) :
    EndStep l t d cb (hM l * 2 ^ (8 - cb) % 256) := by
  have hL := hLen_eq l
  have hp := pad_le (hN l)
  refine ⟨Nat.mod_lt _ (by decide), ?_⟩
  by_cases e : t = l.length
  · right
    have hz := h.z e
    have hcp : cb = pad (hN l) := by rw [e, List.take_length] at hcb; omega
    refine ⟨e, hz, hcp, ?_⟩
    unfold hM
    rw [← hcp, pad_tail _ _ (by omega)]
    exact pad_ok (by omega) (by omega)
  · left
    have htl : t < l.length := by have := h.t_le; omega
    have htot := hN_total htl
    have hd := h.d_lt htl
    refine ⟨htl, ?_⟩
    obtain ⟨R, hR, hM⟩ := hM_split (l.take t) (l.getD t 0) (l.drop (t + 1))
    rw [← split_at htl] at hM hR
    generalize hq : hN (l.drop (t + 1)) + pad (hN l) = q at hM hR
    rw [hM, show 8 - cb = (8 * (d + 1) - hl (l.getD t 0)) - q from by omega]
    obtain ⟨tt, h1, h2⟩ := bits_tail (hV (l.take t)) (hc (l.getD t 0)) (hl (l.getD t 0)) q R (8 * (d + 1) - hl (l.getD t 0)) hR (by omega) (by omega) (by omega)
    rw [h2]
    have hs : hN (l.take (t + 1)) = hN (l.take t) + hl (l.getD t 0) := by rw [take_at htl, hN_snoc]
    exact ⟨hl (l.getD t 0) - 8 * d, leaf_step _ (by omega) hd h1, by omega, by omega, ⟨htl, fun _ => by have := hl_le (l.getD (t + 1) 0); omega, fun _ => rfl, by omega, Nat.le_refl _⟩, by omega⟩
/-- no bits left: all is read -/
theorem end_done {l : List UInt8} {t d : Nat} (h : HSt l (hLen l) t d) (hcb : hN (l.take t) + 8 * d = 8 * hLen l) : t = l.length ∧ d = 0 ∧ pad (hN l) = 0 := by
  have hL := hLen_eq l
  by_cases e : t = l.length
  · have hz := h.z e
    rw [e, List.take_length] at hcb
    exact ⟨e, hz, by omega⟩
  · have htl : t < l.length := by have := h.t_le; omega
    have htot := hN_total htl
    have hd := h.d_lt htl
    omega
theorem mask_ok (l : List UInt8) : hM l % 2 ^ pad (hN l) = 2 ^ pad (hN l) - 1 := by
  unfold hM
  rw [Nat.add_comm, Nat.add_mul_mod_self_right, Nat.mod_eq_of_lt]
  have := Nat.two_pow_pos (pad (hN l)); omega
/-- the bytes, one by one -/
theorem be_get : ∀ (n M j : Nat), j < n → (be n M)[j]? = some (b8 (M / 256 ^ (n - 1 - j) % 256))
  | 0, _, _, h => by omega
  | n + 1, M, j, h => by
    simp only [be]
    by_cases e : j < n
    · rw [List.getElem?_append_left (by rw [be_length]; exact e), be_get n (M / 256) j e, Nat.div_div_eq_div_mul, ← Nat.pow_succ', show (n - 1 - j).succ = n + 1 - 1 - j from by omega]
    · have : j = n := by omega
      subst this
      rw [List.getElem?_append_right (by rw [be_length]; exact Nat.le_refl _), be_length, Nat.sub_self, show j + 1 - 1 - j = 0 from by omega]
      simp
theorem cur_step (M n j : Nat) (h : j < n) : M / 256 ^ (n - j) * 256 + M / 256 ^ (n - 1 - j) % 256 = M / 256 ^ (n - (j + 1)) := by
  rw [show n - j = (n - (j + 1)) + 1 from by omega, show n - 1 - j = n - (j + 1) from by omega, Nat.pow_succ, ← Nat.div_div_eq_div_mul]
  omega
end Go.Proofs.YtoceghdnipjkfaaDoor
