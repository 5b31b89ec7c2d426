/-
  The Huffman code's tables as they lie in memory; HuffmanEncodeLength, AppendHuffmanString.
-/
import Derived.Test.YtoceghdnipjkfaaDoorVarInt
import Derived.Test.YtoceghdnipjkfaaDoorRows
namespace Go.Proofs.YtoceghdnipjkfaaDoor
open Go.RowKit

def natsOf (d : DataW Unit) : List Nat := match d with
  | .agg l => l.map fun x => match x with | .lit (.int _ n) => n.toNat | _ => 0
  | _ => []
noncomputable def hlenL : List Nat := natsOf Rows.laid_loop_example_pub_g03047_pub_hpack_huffmanCodeLen
noncomputable def hcodeL : List Nat := natsOf Rows.laid_loop_example_pub_g03047_pub_hpack_huffmanCodes
theorem hlenL_len : hlenL.length = 256 := by decide +kernel
theorem hcodeL_len : hcodeL.length = 256 := by decide +kernel
theorem hlenL_le : (hlenL.all fun n => decide (5 ≤ n ∧ n ≤ 30)) = true := by decide +kernel
theorem hcodeL_lt : ((List.range 256).all fun i => decide (hcodeL.getD i 0 < 2 ^ hlenL.getD i 0)) = true := by decide +kernel
/-- the number of bits, the bits of a byte's code -/
noncomputable def hl (b : UInt8) : Nat := hlenL.getD b.toNat 0
noncomputable def hc (b : UInt8) : Nat := hcodeL.getD b.toNat 0
theorem hl_le (b : UInt8) : 5 ≤ hl b ∧ hl b ≤ 30 := by
  have hb : b.toNat < hlenL.length := by rw [hlenL_len]; exact b.toNat_lt
  have := List.all_eq_true.1 hlenL_le _ (List.getElem_mem hb)
  unfold hl
  rw [List.getD_eq_getElem?_getD, List.getElem?_eq_getElem hb]
  simpa using this
theorem hc_lt (b : UInt8) : hc b < 2 ^ hl b := by
  have := List.all_eq_true.1 hcodeL_lt b.toNat (List.mem_range.2 b.toNat_lt)
  exact of_decide_eq_true this

/-- the two tables lie where the program has them -/
structure Glob (w : World) : Prop where
  len : ∀ i n, hlenL[i]? = some n → w.cell? ⟨4, i, none⟩ = some (.int .u8 (n : Nat))
  code : ∀ i n, hcodeL[i]? = some n → w.cell? ⟨5, i, none⟩ = some (.int .u32 (n : Nat))
theorem Glob.kept {S : List Nat} {w w' : World} (h : Glob w) (hk : Kept S w w') (h4 : 4 ∉ S) (h5 : 5 ∉ S) : Glob w' :=
  ⟨fun i n hi => hk.cell (h.len i n hi) h4, fun i n hi => hk.cell (h.code i n hi) h5⟩
theorem Glob.hl {w : World} (h : Glob w) (b : UInt8) : w.cell? ⟨4, b.toNat, none⟩ = some (.int .u8 (hl b : Nat)) := by
  have hb : b.toNat < hlenL.length := by rw [hlenL_len]; exact b.toNat_lt
  have := h.len b.toNat _ (List.getElem?_eq_getElem hb)
  rw [this]; unfold YtoceghdnipjkfaaDoor.hl
  rw [List.getD_eq_getElem?_getD, List.getElem?_eq_getElem hb]; rfl
theorem Glob.hc {w : World} (h : Glob w) (b : UInt8) : w.cell? ⟨5, b.toNat, none⟩ = some (.int .u32 (hc b : Nat)) := by
  have hb : b.toNat < hcodeL.length := by rw [hcodeL_len]; exact b.toNat_lt
  have := h.code b.toNat _ (List.getElem?_eq_getElem hb)
  rw [this]; unfold YtoceghdnipjkfaaDoor.hc
  rw [List.getD_eq_getElem?_getD, List.getElem?_eq_getElem hb]; rfl

/-- how many bits, and which, a list of bytes is coded to -/
noncomputable def hN (l : List UInt8) : Nat := (l.map hl).sum
noncomputable def hV (l : List UInt8) : Nat := l.foldl (fun v b => v * 2 ^ hl b + hc b) 0
def bl (s : ByteArray) : List UInt8 := s.data.toList
theorem hN_take {l : List UInt8} {k : Nat} {b : UInt8} (h : l[k]? = some b) : hN (l.take (k + 1)) = hN (l.take k) + hl b := by
  simp [hN, List.take_add_one, h]
theorem hV_take {l : List UInt8} {k : Nat} {b : UInt8} (h : l[k]? = some b) : hV (l.take (k + 1)) = hV (l.take k) * 2 ^ hl b + hc b := by
  simp [hV, List.take_add_one, h]
theorem hN_le (l : List UInt8) : hN l ≤ 30 * l.length := by
  induction l with
  | nil => exact Nat.zero_le _
  | cons b r ih => have := (hl_le b).2; simp only [hN, List.map_cons, List.sum_cons, List.length_cons] at ih ⊢; omega
theorem hV_snoc (l : List UInt8) (b : UInt8) : hV (l ++ [b]) = hV l * 2 ^ hl b + hc b := by simp [hV]
theorem hN_snoc (l : List UInt8) (b : UInt8) : hN (l ++ [b]) = hN l + hl b := by simp [hN]

def HlRel (w : World) (s : ByteArray) (a b : Value) (wr : World) : Prop :=
  ∃ k : Nat, k ≤ s.size ∧ b = .int .i64 k ∧ a = .int .u64 (hN ((bl s).take k)) ∧ wr = w
set_option maxRecDepth 100000 in
set_option maxHeartbeats 1000000 in
theorem hlen_any (s : ByteArray) (w : World) (hg : Glob w) (hs : s.size ≤ 4000000) :
    Calls Tryd.prog 59 #[.string s] w fun e w' => e = .returned (.int .u64 ((hN (bl s) + 7) / 8 : Nat)) ∧ w = w' := by
  go_enter Tryd.func59, Tryd.ntmps59
  go_wp2_with fail
  go_loopw [3, 4] (HlRel w s) (fun _ b _ => s.size - (intOf b).toNat)
  case atStart => exact ⟨0, Nat.zero_le _, rfl, rfl, rfl⟩
  case round =>
    obtain ⟨k, hk, rfl, rfl, rfl⟩ := hrel
    by_cases hlt : k < s.size
    · have hb : (bl s)[k]? = some s[k] := by
        have : k < s.data.toList.length := by simpa using hlt
        unfold bl; rw [List.getElem?_eq_getElem this]; rfl
      have hN1 := hN_take hb
      have hN2 := hN_le ((bl s).take (k + 1))
      have c1 := hg.hl s[k]
      have hbl := hl_le s[k]
      have t1 : s[k].toNat < 256 := s[k].toNat_lt
      have t2 : (s[k].toNat : Int) < 256 := by omega
      have hlen : ((bl s).take (k + 1)).length ≤ k + 1 := by rw [List.length_take]; omega
      go_wp2_with fail
      refine ⟨⟨k + 1, by omega, by go_num, ?_, rfl⟩, by simp [intOf] <;> omega⟩
      rw [hN1]
      go_num
    · have hkn : k = s.size := by omega
      have hN2 := hN_le (bl s)
      have htk : (bl s).take k = bl s := List.take_of_length_le (by unfold bl; simp; omega)
      have hlen : (bl s).length = s.size := by unfold bl; simp
      rw [htk]
      go_wp2_with fail
      go_ret
      exact ⟨ret_int (by omega), rfl⟩

/-- k bytes, the greatest first -/
def be : Nat → Nat → List UInt8
  | 0, _ => []
  | k + 1, W => be k (W / 256) ++ [b8 (W % 256)]
theorem be_length : ∀ k W, (be k W).length = k
  | 0, _ => rfl
  | k + 1, W => by simp [be, be_length k]

theorem be_append (m : Nat) : ∀ k W, be (m + k) W = be m (W / 256 ^ k) ++ be k W
  | 0, W => by simp [be]
  | k + 1, W => by
    rw [show m + (k + 1) = (m + k) + 1 from rfl]
    simp only [be]
    rw [be_append m k (W / 256), List.append_assoc, Nat.div_div_eq_div_mul, ← Nat.pow_succ']
theorem be_mod : ∀ k W, be k (W % 256 ^ k) = be k W
  | 0, _ => rfl
  | k + 1, W => by
    simp only [be]
    rw [Nat.pow_succ', Nat.mod_mul_right_div_self, be_mod k (W / 256), Nat.mod_mul_right_mod]
theorem be4_cells (Y : Nat) (h : Y < 4294967296) : [Value.int .u8 ((Y : Int) / 16777216), Value.int .u8 ((Y : Int) / 65536 % 256), Value.int .u8 ((Y : Int) / 256 % 256), Value.int .u8 ((Y : Int) % 256)] = bc (be 4 Y) := by
  simp only [be, bc, List.nil_append, List.map_cons, List.map_nil, List.cons_append]
  rw [b8_int (Nat.mod_lt _ (by decide)), b8_int (Nat.mod_lt _ (by decide)), b8_int (Nat.mod_lt _ (by decide)), b8_int (Nat.mod_lt _ (by decide))]
  have e1 : (Y : Int) / 16777216 = ((Y / 256 / 256 / 256 % 256 : Nat) : Int) := by omega
  have e2 : (Y : Int) / 65536 % 256 = ((Y / 256 / 256 % 256 : Nat) : Int) := by omega
  have e3 : (Y : Int) / 256 % 256 = ((Y / 256 % 256 : Nat) : Int) := by omega
  have e4 : (Y : Int) % 256 = ((Y % 256 : Nat) : Int) := by omega
  rw [e1, e2, e3, e4]
theorem be1_cells (X : Nat) : [Value.int .u8 ((X : Int) % 256)] = bc (be 1 X) := by
  simp only [be, bc, List.nil_append, List.map_cons, List.map_nil]
  rw [b8_int (Nat.mod_lt _ (by decide))]; rfl
theorem be2_cells (X : Nat) : [Value.int .u8 (IntKind.u16.wrap (X : Int) / 256 % 256), Value.int .u8 (IntKind.u16.wrap (X : Int) % 256)] = bc (be 2 X) := by
  simp only [be, bc, List.nil_append, List.map_cons, List.map_nil, List.cons_append, IntKind.wrap_u16]
  rw [b8_int (Nat.mod_lt _ (by decide)), b8_int (Nat.mod_lt _ (by decide))]
  have e1 : (X : Int) % 65536 / 256 % 256 = ((X / 256 % 256 : Nat) : Int) := by omega
  have e2 : (X : Int) % 65536 % 256 = ((X % 256 : Nat) : Int) := by omega
  rw [e1, e2]
theorem be3_cells (X : Nat) : [Value.int .u8 (IntKind.u16.wrap ((X : Int) / 256) / 256 % 256), Value.int .u8 (IntKind.u16.wrap ((X : Int) / 256) % 256), Value.int .u8 ((X : Int) % 256)] = bc (be 3 X) := by
  simp only [be, bc, List.nil_append, List.map_cons, List.map_nil, List.cons_append, IntKind.wrap_u16]
  rw [b8_int (Nat.mod_lt _ (by decide)), b8_int (Nat.mod_lt _ (by decide)), b8_int (Nat.mod_lt _ (by decide))]
  have e1 : (X : Int) / 256 % 65536 / 256 % 256 = ((X / 256 / 256 % 256 : Nat) : Int) := by omega
  have e2 : (X : Int) / 256 % 65536 % 256 = ((X / 256 % 256 : Nat) : Int) := by omega
  have e3 : (X : Int) % 256 = ((X % 256 : Nat) : Int) := by omega
  rw [e1, e2, e3]
theorem be4'_cells (X : Nat) : [Value.int .u8 ((X : Int) % 4294967296 / 16777216), Value.int .u8 ((X : Int) % 4294967296 / 65536 % 256), Value.int .u8 ((X : Int) % 4294967296 / 256 % 256), Value.int .u8 ((X : Int) % 256)] = bc (be 4 X) := by
  have h := be4_cells (X % 4294967296) (Nat.mod_lt _ (by decide))
  rw [show (4294967296 : Nat) = 256 ^ 4 from rfl, be_mod] at h
  rw [← h]
  have e : ((X % 256 ^ 4 : Nat) : Int) = (X : Int) % 4294967296 := by omega
  have e2 : (X : Int) % 4294967296 % 256 = (X : Int) % 256 := by omega
  rw [e, e2]
theorem mod_div (A n : Nat) (h : n ≤ 32) : A % 18446744073709551616 / 2 ^ n % 4294967296 = A / 2 ^ n % 4294967296 := by
  have hp : 0 < 2 ^ n := Nat.two_pow_pos n
  have hM : (18446744073709551616 : Nat) = 2 ^ n * (4294967296 * 2 ^ (32 - n)) := by
    rw [show (4294967296 : Nat) = 2 ^ 32 from rfl, ← Nat.pow_add, ← Nat.pow_add, show n + (32 + (32 - n)) = 64 from by omega]
  rw [hM, Nat.mod_mul_right_div_self, Nat.mod_mul_right_mod]
theorem shift_out (V L C n : Nat) (hC : C < 2 ^ L) : (V * 2 ^ L + C) / 2 ^ (n + L) = V / 2 ^ n := by
  rw [Nat.add_comm n L, Nat.pow_add, ← Nat.div_div_eq_div_mul, Nat.add_comm, Nat.add_mul_div_right _ _ (Nat.two_pow_pos L), Nat.div_eq_of_lt hC, Nat.zero_add]
theorem emit_step (V L C N : Nat) (hC : C < 2 ^ L) (hL : L ≤ 30) (h32 : 32 ≤ N % 32 + L) :
    be (4 * (N / 32)) (V / 2 ^ (N % 32)) ++ be 4 ((V * 2 ^ L + C) % 18446744073709551616 / 2 ^ ((N + L) % 32) % 4294967296) = be (4 * ((N + L) / 32)) ((V * 2 ^ L + C) / 2 ^ ((N + L) % 32)) := by
  have e1 : (N + L) % 32 + 32 = N % 32 + L := by omega
  have e2 : 4 * ((N + L) / 32) = 4 * (N / 32) + 4 := by omega
  rw [mod_div _ _ (by omega), e2, be_append, show (4294967296 : Nat) = 256 ^ 4 from rfl, be_mod, Nat.div_div_eq_div_mul, show (256 : Nat) ^ 4 = 2 ^ 32 from rfl, ← Nat.pow_add, e1, shift_out V L C _ hC]
theorem emit_none (V L C N : Nat) (hC : C < 2 ^ L) (h32 : ¬ 32 ≤ N % 32 + L) :
    be (4 * (N / 32)) (V / 2 ^ (N % 32)) = be (4 * ((N + L) / 32)) ((V * 2 ^ L + C) / 2 ^ ((N + L) % 32)) := by
  have e1 : (N + L) % 32 = N % 32 + L := by omega
  have e2 : (N + L) / 32 = N / 32 := by omega
  rw [e1, e2, shift_out V L C _ hC]
theorem huff_x (V L C : Nat) (hL : L ≤ 30) (hC : C < 2 ^ L) : bits .or .u64 (IntKind.u64.wrap ((V : Int) % 18446744073709551616 * 2 ^ (L % 64))) (IntKind.u64.wrap (C : Int)) = (((V * 2 ^ L + C) % 18446744073709551616 : Nat) : Int) := by
  have h64 : L % 64 = L := Nat.mod_eq_of_lt (by omega)
  have hM : (18446744073709551616 : Nat) = 2 ^ (64 - L) * 2 ^ L := by rw [← Nat.pow_add, show 64 - L + L = 64 from by omega]
  have hp : 0 < 2 ^ L := Nat.two_pow_pos L
  have hC64 : C < 18446744073709551616 := Nat.lt_of_lt_of_le hC (Nat.le_trans (Nat.pow_le_pow_right (by omega) hL) (by decide))
  have hA : (V * 2 ^ L) % 18446744073709551616 = V % 2 ^ (64 - L) * 2 ^ L := by
    rw [hM, Nat.mul_mod_mul_right]
  have e1 : IntKind.u64.wrap ((V : Int) % 18446744073709551616 * 2 ^ (L % 64)) = ((V % 2 ^ (64 - L) * 2 ^ L : Nat) : Int) := by
    rw [h64, IntKind.wrap_u64, show (18446744073709551616 : Int) = ((18446744073709551616 : Nat) : Int) from rfl, show (2 : Int) = ((2 : Nat) : Int) from rfl, ← Int.natCast_pow, ← Int.natCast_emod, ← Int.natCast_mul, ← Int.natCast_emod, Nat.mod_mul_mod, hA]
  have e2 : IntKind.u64.wrap (C : Int) = (C : Int) := IntWalk.u64_in _ (by omega)
  have hlt : V % 2 ^ (64 - L) * 2 ^ L + C < 18446744073709551616 := by
    have h1 : V % 2 ^ (64 - L) + 1 ≤ 2 ^ (64 - L) := Nat.mod_lt _ (Nat.two_pow_pos _)
    have h2 : (V % 2 ^ (64 - L) + 1) * 2 ^ L ≤ 2 ^ (64 - L) * 2 ^ L := Nat.mul_le_mul_right _ h1
    rw [← hM, Nat.add_mul, Nat.one_mul] at h2
    omega
  rw [e1, e2, u64_or_nat _ _ (by omega) hC64, nat_join L _ _ (Nat.mul_mod_left _ _) hC]
  congr 1
  rw [Nat.add_mod, hA, Nat.mod_eq_of_lt hC64, Nat.mod_eq_of_lt hlt]
theorem huff_x2 (V p r : Nat) (hp : p = 8 - r) (hr : 1 ≤ r ∧ r ≤ 7) : bits .or .u64 (IntKind.u64.wrap ((V : Int) % 18446744073709551616 * 2 ^ (8 - r))) (255 / 2 ^ r) = (((V * 2 ^ p + (2 ^ p - 1)) % 18446744073709551616 : Nat) : Int) := by
  subst hp
  have h := huff_x V (8 - r) (2 ^ (8 - r) - 1) (by omega) (by have := Nat.two_pow_pos (8 - r); omega)
  rw [show (8 - r) % 64 = 8 - r from by omega] at h
  rw [← h]
  congr 1
  have : r = 1 ∨ r = 2 ∨ r = 3 ∨ r = 4 ∨ r = 5 ∨ r = 6 ∨ r = 7 := by omega
  rcases this with rfl | rfl | rfl | rfl | rfl | rfl | rfl <;> rfl
theorem huff_fin (V N p q : Nat) (hp : (8 - N % 8) % 8 = p) (hq : N % 32 + p = 8 * q) :
    be (4 * (N / 32)) (V / 2 ^ (N % 32)) ++ be q ((V * 2 ^ p + (2 ^ p - 1)) % 18446744073709551616) = be ((N + 7) / 8) (V * 2 ^ p + (2 ^ p - 1)) := by
  have e1 : (N + 7) / 8 = 4 * (N / 32) + q := by omega
  have e2 : ∀ W, be q (W % 18446744073709551616) = be q W := by
    intro W
    rw [← be_mod q (W % 18446744073709551616), show (18446744073709551616 : Nat) = 256 ^ q * 256 ^ (8 - q) from by rw [← Nat.pow_add, show q + (8 - q) = 8 from by omega], Nat.mod_mul_right_mod, be_mod]
  rw [e1, be_append, e2, show (256 : Nat) ^ q = 2 ^ (N % 32 + p) from by rw [hq, Nat.pow_mul], shift_out V p _ _ (by have := Nat.two_pow_pos p; omega)]
noncomputable def huff (s : ByteArray) : List UInt8 := be ((hN (bl s) + 7) / 8) (hV (bl s) * 2 ^ ((8 - hN (bl s) % 8) % 8) + (2 ^ ((8 - hN (bl s) % 8) % 8) - 1))

def HuRel (w : World) (v : Value) (l : List UInt8) (s : ByteArray) (d x n i : Value) (wr : World) : Prop :=
  ∃ k : Nat, k ≤ s.size ∧ i = .int .i64 k ∧ x = .int .u64 (hV ((bl s).take k) % 18446744073709551616 : Nat) ∧ n = .int .u64 (hN ((bl s).take k) % 32 : Nat) ∧ AppTo w wr v d (l ++ be (4 * (hN ((bl s).take k) / 32)) (hV ((bl s).take k) / 2 ^ (hN ((bl s).take k) % 32)))
set_option maxRecDepth 100000 in
set_option maxHeartbeats 4000000 in
theorem huff_any (v : Value) (l : List UInt8) (s : ByteArray) (w : World) (hg : Glob w) (hv4 : v.ownBlock ≠ some 4) (hv5 : v.ownBlock ≠ some 5) (hown : Bts w v l) (hs : s.size ≤ 4000000) (hl0 : l.length ≤ 4294967296) :
    Calls Tryd.prog 60 #[v, .string s] w (RetApp w v (l ++ huff s)) := by
  go_enter Tryd.func60, Tryd.ntmps60
  go_wp2_with fail
  go_loopw [0, 5, 6, 7] (HuRel w v l s) (fun _ _ _ b _ => s.size - (intOf b).toNat)
  case atStart => exact ⟨0, Nat.zero_le _, rfl, rfl, rfl, by simpa [be, hN, hV] using AppTo.refl hown⟩
  case round =>
    obtain ⟨k, hk, rfl, rfl, rfl, happ⟩ := hrel
    have hg' : Glob wr := hg.kept happ.kept (by simpa using fun e => hv4 e) (by simpa using fun e => hv5 e)
    by_cases hlt : k < s.size
    · have hb : (bl s)[k]? = some s[k] := by
        have : k < s.data.toList.length := by simpa using hlt
        unfold bl; rw [List.getElem?_eq_getElem this]; rfl
      have hN1 := hN_take hb
      have hV1 := hV_take hb
      have c1 := hg'.hl s[k]
      have c2 := hg'.hc s[k]
      have hbl := hl_le s[k]
      have hcl := hc_lt s[k]
      have hNle := hN_le ((bl s).take k)
      have hlen : ((bl s).take k).length ≤ k := by rw [List.length_take]; omega
      have hNle : hN ((bl s).take k) ≤ 120000000 := by omega
      have t1 : s[k].toNat < 256 := s[k].toNat_lt
      have t2 : (s[k].toNat : Int) < 256 := by omega
      generalize hV ((bl s).take k) = V at *
      generalize hN ((bl s).take k) = N at *
      obtain ⟨L, hL⟩ : ∃ L, hl s[k] = L := ⟨_, rfl⟩
      obtain ⟨C, hC⟩ : ∃ C, hc s[k] = C := ⟨_, rfl⟩
      rw [hL] at c1 hbl hcl hN1 hV1
      rw [hC] at c2 hcl hV1
      have HA := Lib.hid happ; clear happ
      have HL := Lib.hid hL; clear hL
      have HC := Lib.hid hC; clear hC
      have HN1 := Lib.hid hN1; clear hN1
      have HV1 := Lib.hid hV1; clear hV1
      go_upto_region 10 with (fail)
      rw [huff_x V L C hbl.2 hcl]
      generalize hX : (V * 2 ^ L + C) % 18446744073709551616 = X
      by_cases h32 : 32 ≤ N % 32 + L
      · go_upto_region 13 with (fail)
        have hY : ((X : Int) / 2 ^ ((N + L) % 32) % 4294967296) = ((X / 2 ^ ((N + L) % 32) % 4294967296 : Nat) : Int) := by
          rw [show (4294967296 : Int) = ((4294967296 : Nat) : Int) from rfl, show (2 : Int) = ((2 : Nat) : Int) from rfl, ← Int.natCast_pow, ← Int.natCast_ediv, ← Int.natCast_emod]
        rw [hY]
        generalize hYY : X / 2 ^ ((N + L) % 32) % 4294967296 = Y
        have hYlt : Y < 4294967296 := by rw [← hYY]; exact Nat.mod_lt _ (by decide)
        have HX := Lib.hid hX; clear hX
        have HY := Lib.hid hYY; clear hYY hY
        have hap := HA.out
        have hown1 := HA.out.own
        generalize hl1 : l ++ be (4 * (N / 32)) (V / 2 ^ (N % 32)) = l1 at hown1
        have hl1len : l1.length ≤ 4294967296 + 4 * 4000000 := by
          rw [← hl1, List.length_append, be_length]; omega
        have HL1 := Lib.hid hl1; clear hl1
        go_wp2_with (at_builtin; go_must (refine app_lit _ rfl _ _ rfl _ l1 rfl hown1 _ 4 rfl (be 4 Y) ?c1 rfl (by omega) ?_; rotate_right; intro v2 w2 h6 h7))
        case c1 => exact be4_cells Y hYlt
        have hap2 := hap.trans (HL1.out ▸ h6)
        refine ⟨⟨k + 1, by omega, by go_num, ?_, ?_, ?_⟩, by simp [intOf] <;> omega⟩
        · rw [HV1.out, HX.out]
        · rw [HN1.out]; go_num
        · rw [HN1.out, HV1.out, ← emit_step V L C N hcl hbl.2 h32, HX.out, HY.out, ← List.append_assoc, HL1.out]
          exact hap.trans (HL1.out ▸ h6)
      · have HX := Lib.hid hX; clear hX
        have hap := HA.out
        go_wp2_with fail
        refine ⟨⟨k + 1, by omega, by go_num, ?_, ?_, ?_⟩, by simp [intOf] <;> omega⟩
        · rw [HV1.out, HX.out]
        · rw [HN1.out]; go_num
        · rw [HN1.out, HV1.out, ← emit_none V L C N hcl h32]
          exact hap
    · have hkn : k = s.size := by omega
      have htk : (bl s).take k = bl s := List.take_of_length_le (by unfold bl; simp; omega)
      have hNle := hN_le (bl s)
      have hlen : (bl s).length = s.size := by unfold bl; simp
      rw [htk] at happ ⊢
      have hh : huff s = be ((hN (bl s) + 7) / 8) (hV (bl s) * 2 ^ ((8 - hN (bl s) % 8) % 8) + (2 ^ ((8 - hN (bl s) % 8) % 8) - 1)) := rfl
      generalize hV (bl s) = V at *
      generalize hN (bl s) = N at *
      have HH := Lib.hid hh; clear hh
      have HA := Lib.hid happ; clear happ
      have hap := HA.out
      have hown1 := HA.out.own
      obtain ⟨p, hp⟩ : ∃ p, (8 - N % 8) % 8 = p := ⟨_, rfl⟩
      have HH2 := HH.out
      rw [hp] at HH2
      obtain ⟨q, hq⟩ : ∃ q, N % 32 + p = 8 * q := ⟨(N % 32 + p) / 8, by omega⟩
      obtain ⟨X, hX⟩ : ∃ X, (V * 2 ^ p + (2 ^ p - 1)) % 18446744073709551616 = X := ⟨_, rfl⟩
      have hfin : l ++ be (4 * (N / 32)) (V / 2 ^ (N % 32)) ++ be q X = l ++ huff s := by
        rw [List.append_assoc, HH2, ← hX]
        congr 1
        exact huff_fin V N p q hp hq
      have hXlt : X < 18446744073709551616 := by rw [← hX]; exact Nat.mod_lt _ (by decide)
      have hl1len : (l ++ be (4 * (N / 32)) (V / 2 ^ (N % 32))).length ≤ 4294967296 + 4 * 4000000 := by
        rw [List.length_append, be_length]; omega
      generalize l ++ be (4 * (N / 32)) (V / 2 ^ (N % 32)) = l1 at hown1 hfin hap hl1len
      have hq4 : q = 0 ∨ q = 1 ∨ q = 2 ∨ q = 3 ∨ q = 4 := by omega
      clear HA HH HH2
      have HF := Lib.hid hfin; clear hfin
      by_cases h8 : N % 8 = 0
      · have hp0 : p = 0 := by omega
        subst hp0
        have b1 : decide (0 < (N : Int) % 32 % 8) = false := by simp; omega
        go_upto_region 19 with (fail)
        rw [show ((N % 32 : Nat) : Int) = ((8 * q : Nat) : Int) from by omega]
        rw [show V % 18446744073709551616 = X from by rw [← hX]; simp]
        have HX := Lib.hid hX; clear hX
        have HQ := Lib.hid hq; clear hq
        clear b1 h8
        rcases hq4 with rfl | rfl | rfl | rfl | rfl
        · go_wp2_with fail
          go_ret
          exact ⟨_, rfl, by have h9 := HF.out; simp only [be, List.append_nil] at h9; rw [← h9]; exact hap⟩
        · go_wp2_with (at_builtin; go_must (refine app_lit _ rfl _ _ rfl _ l1 rfl hown1 _ 1 rfl (be 1 X) ?c1 rfl (by omega) ?_; rotate_right; intro v2 w2 h6 h7))
          case c1 => exact be1_cells X
          go_ret
          exact ⟨_, rfl, by have h9 := hap.trans h6; rw [HF.out] at h9; exact h9⟩
        · go_wp2_with (at_builtin; go_must (refine app_lit _ rfl _ _ rfl _ l1 rfl hown1 _ 2 rfl (be 2 X) ?c1 rfl (by omega) ?_; rotate_right; intro v2 w2 h6 h7))
          case c1 => exact be2_cells X
          go_ret
          exact ⟨_, rfl, by have h9 := hap.trans h6; rw [HF.out] at h9; exact h9⟩
        · go_wp2_with (at_builtin; go_must (refine app_lit _ rfl _ _ rfl _ l1 rfl hown1 _ 3 rfl (be 3 X) ?c1 rfl (by omega) ?_; rotate_right; intro v2 w2 h6 h7))
          case c1 => exact be3_cells X
          go_ret
          exact ⟨_, rfl, by have h9 := hap.trans h6; rw [HF.out] at h9; exact h9⟩
        · go_wp2_with (at_builtin; go_must (refine app_lit _ rfl _ _ rfl _ l1 rfl hown1 _ 4 rfl (be 4 X) ?c1 rfl (by omega) ?_; rotate_right; intro v2 w2 h6 h7))
          case c1 => exact be4'_cells X
          go_ret
          exact ⟨_, rfl, by have h9 := hap.trans h6; rw [HF.out] at h9; exact h9⟩
      · have hpr : p = 8 - N % 8 := by omega
        have b1 : decide (0 < (N : Int) % 32 % 8) = true := by simp; omega
        go_upto_region 19 with (fail)
        rw [huff_x2 V p (N % 8) hpr (by omega), hX]
        rw [show ((N : Int) % 32 + (8 - (N : Int) % 8)) = ((8 * q : Nat) : Int) from by omega]
        have HX := Lib.hid hX; clear hX
        have HQ := Lib.hid hq; clear hq
        clear b1 h8
        rcases hq4 with rfl | rfl | rfl | rfl | rfl
        · go_wp2_with fail
          go_ret
          exact ⟨_, rfl, by have h9 := HF.out; simp only [be, List.append_nil] at h9; rw [← h9]; exact hap⟩
        · go_wp2_with (at_builtin; go_must (refine app_lit _ rfl _ _ rfl _ l1 rfl hown1 _ 1 rfl (be 1 X) ?c1 rfl (by omega) ?_; rotate_right; intro v2 w2 h6 h7))
          case c1 => exact be1_cells X
          go_ret
          exact ⟨_, rfl, by have h9 := hap.trans h6; rw [HF.out] at h9; exact h9⟩
        · go_wp2_with (at_builtin; go_must (refine app_lit _ rfl _ _ rfl _ l1 rfl hown1 _ 2 rfl (be 2 X) ?c1 rfl (by omega) ?_; rotate_right; intro v2 w2 h6 h7))
          case c1 => exact be2_cells X
          go_ret
          exact ⟨_, rfl, by have h9 := hap.trans h6; rw [HF.out] at h9; exact h9⟩
        · go_wp2_with (at_builtin; go_must (refine app_lit _ rfl _ _ rfl _ l1 rfl hown1 _ 3 rfl (be 3 X) ?c1 rfl (by omega) ?_; rotate_right; intro v2 w2 h6 h7))
          case c1 => exact be3_cells X
          go_ret
          exact ⟨_, rfl, by have h9 := hap.trans h6; rw [HF.out] at h9; exact h9⟩
        · go_wp2_with (at_builtin; go_must (refine app_lit _ rfl _ _ rfl _ l1 rfl hown1 _ 4 rfl (be 4 X) ?c1 rfl (by omega) ?_; rotate_right; intro v2 w2 h6 h7))
          case c1 => exact be4'_cells X
          go_ret
          exact ⟨_, rfl, by have h9 := hap.trans h6; rw [HF.out] at h9; exact h9⟩
end Go.Proofs.YtoceghdnipjkfaaDoor
