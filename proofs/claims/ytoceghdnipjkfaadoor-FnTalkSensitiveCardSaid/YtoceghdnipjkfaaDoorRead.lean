/-
  readVarInt reads what appendVarInt has written.
-/
import Derived.Test.YtoceghdnipjkfaaDoorEnc
namespace Go.Proofs.YtoceghdnipjkfaaDoor
open Go.RowKit

/-- from off on, block g holds these bytes -/
def Rd (w : World) (g off : Nat) (l : List UInt8) : Prop := ∀ k b, l[k]? = some b → w.cell? ⟨g, off + k, none⟩ = some (.int .u8 b.toNat)
theorem Rd.kept {S : List Nat} {w w' : World} {g off : Nat} {l : List UInt8} (h : Rd w g off l) (hk : Kept S w w') (hn : g ∉ S) : Rd w' g off l := fun k b hb => hk.cell (h k b hb) hn
theorem Rd.app {w : World} {g off : Nat} {l r : List UInt8} (h : Rd w g off (l ++ r)) : Rd w g (off + l.length) r := by
  intro k b hb
  have := h (l.length + k) b (by rw [List.getElem?_append_right (by omega), Nat.add_sub_cancel_left]; exact hb)
  rwa [← Nat.add_assoc] at this
theorem Rd.left {w : World} {g off : Nat} {l r : List UInt8} (h : Rd w g off (l ++ r)) : Rd w g off l := by
  intro k b hb
  exact h k b (by rw [List.getElem?_append_left (List.getElem?_eq_some_iff.1 hb).1]; exact hb)
theorem Rd.head {w : World} {g off : Nat} {b : UInt8} {r : List UInt8} (h : Rd w g off (b :: r)) : w.cell? ⟨g, off, none⟩ = some (.int .u8 b.toNat) := h 0 b rfl

/-- v is a slice into block g of just these bytes -/
def RdV (w : World) (g : Nat) (v : Value) (l : List UInt8) : Prop := ∃ off cap, v = .slice (some ⟨g, off, none⟩) l.length cap ∧ l.length ≤ cap ∧ cap ≤ maxLen ∧ Rd w g off l
theorem RdV.kept {S : List Nat} {w w' : World} {g : Nat} {v : Value} {l : List UInt8} (h : RdV w g v l) (hk : Kept S w w') (hn : g ∉ S) : RdV w' g v l := by
  obtain ⟨off, cap, h1, h2, h3, h4⟩ := h
  exact ⟨off, cap, h1, h2, h3, h4.kept hk hn⟩
/-- behind a reading: the value, the rest -/
def ViRead (w : World) (i g : Nat) (rest : List UInt8) (e : Ending) (w' : World) : Prop :=
  ∃ v', e = .returned (.tuple #[.int .u64 i, v', .nilIface]) ∧ RdV w' g v' rest ∧ Kept [] w w'

theorem and_mask (B n : Nat) (hB : B < 256) (hn : n = 4 ∨ n = 5 ∨ n = 6 ∨ n = 7) : bits .and .u64 (B : Int) ((2 ^ n - 1 : Nat) : Int) = ((B % 2 ^ n : Nat) : Int) := by
  rw [u64_and_nat B (2 ^ n - 1) (by omega) (by rcases hn with rfl | rfl | rfl | rfl <;> decide), Nat.and_two_pow_sub_one_eq_mod]

set_option maxRecDepth 100000 in
set_option maxHeartbeats 1000000 in
theorem read_small (n B g off cap : Nat) (rest : List UInt8) (w : World) (hn : n = 4 ∨ n = 5 ∨ n = 6 ∨ n = 7) (hB : B < 256) (hi : B % 2 ^ n < 2 ^ n - 1) (hcap : rest.length + 1 ≤ cap) (hm : cap ≤ maxLen)
    (hr : Rd w g off (b8 B :: rest)) :
    Calls Tryd.prog 62 #[.int .u8 n, .slice (some ⟨g, off, none⟩) (rest.length + 1 : Nat) cap] w (ViRead w (B % 2 ^ n) g rest) := by
  have c0 := hr.head
  rw [b8_int hB] at c0
  have ha := and_mask B n hB hn
  have hr1 : Rd w g (off + 1) rest := Rd.app (l := [b8 B]) hr
  obtain ⟨m, hm1, hm2⟩ : ∃ m, rest.length + 1 = m ∧ rest.length = m - 1 := ⟨_, rfl, rfl⟩
  rw [hm1] at hcap ⊢
  have hm0 : 0 < m := by omega
  have hm3 : rest.length = m - 1 := hm2
  have HM3 := Lib.hid hm3; clear hm1 hm2 hm3
  have HM := Lib.hid hm; clear hm
  rcases hn with rfl | rfl | rfl | rfl
  · have hi' : B % 16 < 15 := hi
    have ha' : bits .and .u64 (B : Int) 15 = ((B % 16 : Nat) : Int) := ha
    have hgoal : B % 16 = B % 16 := rfl
    obtain ⟨i, hQ⟩ : ∃ i, B % 16 = i := ⟨_, rfl⟩
    rw [hQ] at hi' ha'
    have HQ := Lib.hid hQ; clear hQ hi ha hgoal
    have b1 : decide ((i : Int) < 15) = true := by simp; omega
    by_cases hc : cap = 1
    · subst hc
      have hm1 : m = 1 := by omega
      subst hm1
      go_enter Tryd.func62, Tryd.ntmps62
      go_wp2_with fail
      go_quiet (fail)
      go_wp2_with fail
      go_ret3
      have h0 := HM3.out
      have hr0 : rest = [] := List.eq_nil_of_length_eq_zero (by omega)
      subst hr0
      exact ⟨_, by rw [show B % 2 ^ 4 = i from HQ.out]; rfl, ⟨off, 0, rfl, Nat.le_refl _, by unfold maxLen; omega, fun k b hb => by cases hb⟩, (Kept.refl _ _).drewN _⟩
    · go_enter Tryd.func62, Tryd.ntmps62
      go_wp2_with fail
      go_quiet (fail)
      go_wp2_with fail
      go_ret3
      refine ⟨_, by rw [show B % 2 ^ 4 = i from HQ.out]; rfl, ⟨off + 1, cap - 1, ?_, ?_, ?_, hr1.kept ((Kept.refl [] _).drewN _) (by simp)⟩, (Kept.refl _ _).drewN _⟩
      · rw [HM3.out]; rfl
      · have := HM3.out; omega
      · have := HM.out; omega
  · have hi' : B % 32 < 31 := hi
    have ha' : bits .and .u64 (B : Int) 31 = ((B % 32 : Nat) : Int) := ha
    have hgoal : B % 32 = B % 32 := rfl
    obtain ⟨i, hQ⟩ : ∃ i, B % 32 = i := ⟨_, rfl⟩
    rw [hQ] at hi' ha'
    have HQ := Lib.hid hQ; clear hQ hi ha hgoal
    have b1 : decide ((i : Int) < 31) = true := by simp; omega
    by_cases hc : cap = 1
    · subst hc
      have hm1 : m = 1 := by omega
      subst hm1
      go_enter Tryd.func62, Tryd.ntmps62
      go_wp2_with fail
      go_quiet (fail)
      go_wp2_with fail
      go_ret3
      have h0 := HM3.out
      have hr0 : rest = [] := List.eq_nil_of_length_eq_zero (by omega)
      subst hr0
      exact ⟨_, by rw [show B % 2 ^ 5 = i from HQ.out]; rfl, ⟨off, 0, rfl, Nat.le_refl _, by unfold maxLen; omega, fun k b hb => by cases hb⟩, (Kept.refl _ _).drewN _⟩
    · go_enter Tryd.func62, Tryd.ntmps62
      go_wp2_with fail
      go_quiet (fail)
      go_wp2_with fail
      go_ret3
      refine ⟨_, by rw [show B % 2 ^ 5 = i from HQ.out]; rfl, ⟨off + 1, cap - 1, ?_, ?_, ?_, hr1.kept ((Kept.refl [] _).drewN _) (by simp)⟩, (Kept.refl _ _).drewN _⟩
      · rw [HM3.out]; rfl
      · have := HM3.out; omega
      · have := HM.out; omega
  · have hi' : B % 64 < 63 := hi
    have ha' : bits .and .u64 (B : Int) 63 = ((B % 64 : Nat) : Int) := ha
    have hgoal : B % 64 = B % 64 := rfl
    obtain ⟨i, hQ⟩ : ∃ i, B % 64 = i := ⟨_, rfl⟩
    rw [hQ] at hi' ha'
    have HQ := Lib.hid hQ; clear hQ hi ha hgoal
    have b1 : decide ((i : Int) < 63) = true := by simp; omega
    by_cases hc : cap = 1
    · subst hc
      have hm1 : m = 1 := by omega
      subst hm1
      go_enter Tryd.func62, Tryd.ntmps62
      go_wp2_with fail
      go_quiet (fail)
      go_wp2_with fail
      go_ret3
      have h0 := HM3.out
      have hr0 : rest = [] := List.eq_nil_of_length_eq_zero (by omega)
      subst hr0
      exact ⟨_, by rw [show B % 2 ^ 6 = i from HQ.out]; rfl, ⟨off, 0, rfl, Nat.le_refl _, by unfold maxLen; omega, fun k b hb => by cases hb⟩, (Kept.refl _ _).drewN _⟩
    · go_enter Tryd.func62, Tryd.ntmps62
      go_wp2_with fail
      go_quiet (fail)
      go_wp2_with fail
      go_ret3
      refine ⟨_, by rw [show B % 2 ^ 6 = i from HQ.out]; rfl, ⟨off + 1, cap - 1, ?_, ?_, ?_, hr1.kept ((Kept.refl [] _).drewN _) (by simp)⟩, (Kept.refl _ _).drewN _⟩
      · rw [HM3.out]; rfl
      · have := HM3.out; omega
      · have := HM.out; omega
  · have hi' : B % 128 < 127 := hi
    have ha' : bits .and .u64 (B : Int) 127 = ((B % 128 : Nat) : Int) := ha
    have hgoal : B % 128 = B % 128 := rfl
    obtain ⟨i, hQ⟩ : ∃ i, B % 128 = i := ⟨_, rfl⟩
    rw [hQ] at hi' ha'
    have HQ := Lib.hid hQ; clear hQ hi ha hgoal
    have b1 : decide ((i : Int) < 127) = true := by simp; omega
    by_cases hc : cap = 1
    · subst hc
      have hm1 : m = 1 := by omega
      subst hm1
      go_enter Tryd.func62, Tryd.ntmps62
      go_wp2_with fail
      go_quiet (fail)
      go_wp2_with fail
      go_ret3
      have h0 := HM3.out
      have hr0 : rest = [] := List.eq_nil_of_length_eq_zero (by omega)
      subst hr0
      exact ⟨_, by rw [show B % 2 ^ 7 = i from HQ.out]; rfl, ⟨off, 0, rfl, Nat.le_refl _, by unfold maxLen; omega, fun k b hb => by cases hb⟩, (Kept.refl _ _).drewN _⟩
    · go_enter Tryd.func62, Tryd.ntmps62
      go_wp2_with fail
      go_quiet (fail)
      go_wp2_with fail
      go_ret3
      refine ⟨_, by rw [show B % 2 ^ 7 = i from HQ.out]; rfl, ⟨off + 1, cap - 1, ?_, ?_, ?_, hr1.kept ((Kept.refl [] _).drewN _) (by simp)⟩, (Kept.refl _ _).drewN _⟩
      · rw [HM3.out]; rfl
      · have := HM3.out; omega
      · have := HM.out; omega

theorem shl_cast (j sh : Nat) : (j : Int) * 2 ^ sh = ((j * 2 ^ sh : Nat) : Int) := by
  rw [Int.natCast_mul, Int.natCast_pow]; rfl
theorem shl_fits (j sh : Nat) (h : j * 2 ^ sh < 18446744073709551616) : IntKind.u64.wrap ((j : Int) * 2 ^ sh) = (j : Int) * 2 ^ sh := by
  rw [shl_cast]; exact IntWalk.u64_in _ (by omega)
theorem add_fits (acc j sh : Nat) (h : acc + j * 2 ^ sh < 18446744073709551616) : IntKind.u64.wrap ((acc : Int) + (j : Int) * 2 ^ sh) = (acc : Int) + (j : Int) * 2 ^ sh := by
  rw [shl_cast]; exact IntWalk.u64_in _ (by omega)
theorem sum_cast {acc j sh tot : Nat} (h : acc + j * 2 ^ sh = tot) : (acc : Int) + (j : Int) * 2 ^ sh = (tot : Int) := by
  rw [shl_cast, ← Int.natCast_add, h]
theorem sum_step (acc j sh : Nat) : acc + j % 128 * 2 ^ sh + j / 128 * 2 ^ (sh + 7) = acc + j * 2 ^ sh := by
  rw [Nat.pow_add, show (2 : Nat) ^ 7 = 128 from rfl]
  generalize 2 ^ sh = P
  have h : j = 128 * (j / 128) + j % 128 := by omega
  have h2 : j * P = (128 * (j / 128) + j % 128) * P := by rw [← h]
  rw [h2, Nat.add_mul, Nat.mul_comm P 128, ← Nat.mul_assoc, Nat.mul_comm (j / 128) 128]
  omega
theorem ret_vi {x y : Int} {v u : Value} (h : x = y) : Ending.returned (.tuple #[.int .u64 x, v, u]) = .returned (.tuple #[.int .u64 y, v, u]) := by rw [h]
def sliceLen : Value → Nat
  | .slice _ n _ => n
  | _ => 0
def BigRel (w : World) (g tot : Nat) (rest : List UInt8) (p i m : Value) (wr : World) : Prop :=
  ∃ j acc sh : Nat, RdV wr g p (cont j ++ rest) ∧ i = .int .u64 acc ∧ m = .int .u64 sh ∧ acc + j * 2 ^ sh = tot ∧ (sh = 0 ∨ 1 ≤ j) ∧ Kept [] w wr
theorem and127 (b : Nat) (hb : b < 256) : bits .and .u8 (b : Int) 127 = ((b % 128 : Nat) : Int) := by
  have := u8_and_nat b 127 hb (by decide)
  rw [show (127 : Nat) = 2 ^ 7 - 1 from rfl, Nat.and_two_pow_sub_one_eq_mod] at this
  exact this
theorem and128 (b : Nat) (hb : b < 256) : bits .and .u8 (b : Int) 128 = ((128 * (b / 128) : Nat) : Int) := by
  have := u8_and_nat b 128 hb (by decide)
  have h2 : b &&& 128 = 128 * (b / 128) := by
    have h3 : ∀ b : Fin 256, b.val &&& 128 = 128 * (b.val / 128) := by decide +kernel
    exact h3 ⟨b, hb⟩
  rw [h2] at this
  exact this

set_option maxRecDepth 100000 in
set_option maxHeartbeats 1000000 in
theorem read_big (n B g off cap j0 : Nat) (rest : List UInt8) (w : World) (hn : n = 4 ∨ n = 5 ∨ n = 6 ∨ n = 7) (hB : B < 256) (hi : B % 2 ^ n = 2 ^ n - 1) (hj : 2 ^ n - 1 + j0 < 4294967296) (hcap : (cont j0 ++ rest).length + 1 ≤ cap) (hm : cap ≤ maxLen)
    (hr : Rd w g off (b8 B :: (cont j0 ++ rest))) :
    Calls Tryd.prog 62 #[.int .u8 n, .slice (some ⟨g, off, none⟩) ((cont j0 ++ rest).length + 1 : Nat) cap] w (ViRead w (2 ^ n - 1 + j0) g rest) := by
  have c0 := hr.head
  rw [b8_int hB] at c0
  have ha := and_mask B n hB hn
  rw [hi] at ha
  have hr1 : Rd w g (off + 1) (cont j0 ++ rest) := Rd.app (l := [b8 B]) hr
  have hne : 0 < (cont j0 ++ rest).length := by
    rw [List.length_append]
    have : 0 < (cont j0).length := by
      by_cases h : j0 < 128
      · rw [cont_small h]; simp
      · rw [cont_big h]; simp
    omega
  obtain ⟨m, hm1, hm2⟩ : ∃ m, (cont j0 ++ rest).length + 1 = m ∧ (cont j0 ++ rest).length = m - 1 := ⟨_, rfl, rfl⟩
  have hm0 : 1 < m := by omega
  have hc1 : cap ≠ 1 := by omega
  have hr2 : RdV w g (.slice (some ⟨g, off + 1, none⟩) (m - 1) (cap - 1)) (cont j0 ++ rest) := ⟨off + 1, cap - 1, by rw [← hm2], by omega, by omega, hr1⟩
  rw [hm1] at hcap ⊢
  have HR1 := Lib.hid hr1
  have HR2 := Lib.hid hr2
  clear hm2 hr hr1 hr2 hne hm1
  have HM := Lib.hid hm; clear hm
  obtain ⟨tot, htot⟩ : ∃ tot, 2 ^ n - 1 + j0 = tot := ⟨_, rfl⟩
  rw [htot] at hj ⊢
  rcases hn with rfl | rfl | rfl | rfl
  · have ha' : bits .and .u64 (B : Int) 15 = 15 := ha
    have ht' : 15 + j0 = tot := htot
    have HT := Lib.hid ht'
    clear ha htot hi ht'
    go_enter Tryd.func62, Tryd.ntmps62
    go_wp2_with fail
    go_loopw [1, 4, 8] (BigRel w g tot rest) (fun p _ _ _ => sliceLen p)
    case atStart => exact ⟨j0, 15, 0, HR2.out, rfl, rfl, by have := HT.out; simp; omega, .inl rfl, Kept.refl _ _⟩
    case round =>
      obtain ⟨j, acc, sh, ⟨off', cap', rfl, hc', hm', hr'⟩, rfl, rfl, hsum, hsh, kk⟩ := hrel
      have hsh32 : sh < 32 := by
        rcases hsh with h | h
        · omega
        · apply Nat.lt_of_not_le; intro h32
          have := Nat.pow_le_pow_right (n := 2) (by omega) h32
          have := Nat.mul_le_mul h this
          omega
      replace hsh := Lib.hid hsh
      have HSUM := Lib.hid hsum; clear hsum
      by_cases hlt : j < 128
      · rw [cont_small hlt] at hr' hc' ⊢
        have c1 := hr'.head
        rw [b8_int (by omega)] at c1
        have a7 := and127 j (by omega)
        have a8 := and128 j (by omega)
        rw [Nat.mod_eq_of_lt hlt] at a7
        rw [Nat.div_eq_of_lt hlt] at a8
        have hr'' : Rd wr g (off' + 1) rest := Rd.app (l := [b8 j]) hr'
        obtain ⟨n1, hn1, hn2⟩ : ∃ n1, ([b8 j] ++ rest).length = n1 ∧ rest.length = n1 - 1 := ⟨_, rfl, by simp⟩
        have hn3 : 0 < n1 := by rw [← hn1]; simp
        rw [hn1] at hc' ⊢
        have HN2 := Lib.hid hn2
        clear hn1 hn2
        have HR := Lib.hid hr''; clear hr'' hr'
        have HM2 := Lib.hid hm'; clear hm'
        have hsw : IntKind.u64.wrap ((j : Int) * 2 ^ sh) = (j : Int) * 2 ^ sh := shl_fits j sh (by have := HSUM.out; omega)
        have haw : IntKind.u64.wrap ((acc : Int) + (j : Int) * 2 ^ sh) = (acc : Int) + (j : Int) * 2 ^ sh := add_fits acc j sh (by have := HSUM.out; omega)
        by_cases hc1' : cap' = 1
        · subst hc1'
          have : n1 = 1 := by omega
          subst this
          go_wp2_with fail
          go_ret3
          have hr0 : rest = [] := List.eq_nil_of_length_eq_zero (by rw [HN2.out])
          subst hr0
          refine ⟨_, ret_vi (sum_cast HSUM.out), ⟨off', 0, rfl, Nat.le_refl _, by unfold maxLen; omega, fun k b hb => by cases hb⟩, kk⟩
        · go_wp2_with fail
          go_ret3
          refine ⟨_, ret_vi (sum_cast HSUM.out), ⟨off' + 1, cap' - 1, by show Value.slice _ (n1 - 1) _ = _; rw [HN2.out], by rw [HN2.out]; omega, by have := HM2.out; omega, HR.out⟩, kk⟩
      · rw [cont_big hlt] at hr' hc' ⊢
        have c1 := hr'.head
        have hjb : 128 + j % 128 < 256 := by omega
        rw [b8_int hjb] at c1
        obtain ⟨bb, hbb⟩ : ∃ bb, 128 + j % 128 = bb := ⟨_, rfl⟩
        obtain ⟨q, hq⟩ : ∃ q, j / 128 = q := ⟨_, rfl⟩
        obtain ⟨r, hrr⟩ : ∃ r, j % 128 = r := ⟨_, rfl⟩
        have a7 := and127 bb (by omega)
        have a8 := and128 bb (by omega)
        rw [show bb % 128 = r from by omega] at a7
        rw [show bb / 128 = 1 from by omega] at a8
        rw [hbb] at c1 hr' hc' ⊢
        rw [hq] at hr' hc' ⊢
        have hr'' : Rd wr g (off' + 1) (cont q ++ rest) := Rd.app (l := [b8 bb]) hr'
        have hq1 : 1 ≤ q := by omega
        have hne : 0 < (cont q ++ rest).length := by
          rw [List.length_append]
          have : 0 < (cont q).length := by
            by_cases h : q < 128
            · rw [cont_small h]; simp
            · rw [cont_big h]; simp
          omega
        have hr128 : r < 128 := by omega
        have hstep := sum_step acc j sh
        rw [hq, hrr, HSUM.out] at hstep
        obtain ⟨n1, hn1, hn2⟩ : ∃ n1, (b8 bb :: cont q ++ rest).length = n1 ∧ (cont q ++ rest).length = n1 - 1 := ⟨_, rfl, by simp⟩
        have hn3 : 1 < n1 := by rw [← hn1]; simp at hne ⊢; omega
        rw [hn1] at hc' ⊢
        have HN2 := Lib.hid hn2
        clear hn1 hn2 hne hbb hq hrr hlt
        have HR := Lib.hid hr''; clear hr'' hr'
        have HM2 := Lib.hid hm'; clear hm'
        have hw0 : IntKind.u64.wrap (r : Int) = (r : Int) := IntWalk.u64_in _ (by omega)
        have hsw : IntKind.u64.wrap ((r : Int) * 2 ^ sh) = (r : Int) * 2 ^ sh := shl_fits r sh (by omega)
        have haw : IntKind.u64.wrap ((acc : Int) + (r : Int) * 2 ^ sh) = (acc : Int) + (r : Int) * 2 ^ sh := add_fits acc r sh (by omega)
        have hc1' : cap' ≠ 1 := by omega
        have b63 : decide ((63 : Int) ≤ (sh : Int) + 7) = false := by simp; omega
        have HST := Lib.hid hstep; clear hstep
        go_wp2_with fail
        refine ⟨⟨q, acc + r * 2 ^ sh, sh + 7, ⟨off' + 1, cap' - 1, by rw [HN2.out], by rw [HN2.out]; omega, by have := HM2.out; omega, HR.out⟩, ?_, by go_num, HST.out, .inr hq1, kk⟩, ?_⟩
        · first | rw [shl_cast, ← Int.natCast_add] | (rw [hw0, hsw, haw, shl_cast, ← Int.natCast_add])
        · show sliceLen (.slice _ (n1 - 1) _) < sliceLen (.slice _ n1 _)
          simp only [sliceLen]; omega
  · have ha' : bits .and .u64 (B : Int) 31 = 31 := ha
    have ht' : 31 + j0 = tot := htot
    have HT := Lib.hid ht'
    clear ha htot hi ht'
    go_enter Tryd.func62, Tryd.ntmps62
    go_wp2_with fail
    go_loopw [1, 4, 8] (BigRel w g tot rest) (fun p _ _ _ => sliceLen p)
    case atStart => exact ⟨j0, 31, 0, HR2.out, rfl, rfl, by have := HT.out; simp; omega, .inl rfl, Kept.refl _ _⟩
    case round =>
      obtain ⟨j, acc, sh, ⟨off', cap', rfl, hc', hm', hr'⟩, rfl, rfl, hsum, hsh, kk⟩ := hrel
      have hsh32 : sh < 32 := by
        rcases hsh with h | h
        · omega
        · apply Nat.lt_of_not_le; intro h32
          have := Nat.pow_le_pow_right (n := 2) (by omega) h32
          have := Nat.mul_le_mul h this
          omega
      replace hsh := Lib.hid hsh
      have HSUM := Lib.hid hsum; clear hsum
      by_cases hlt : j < 128
      · rw [cont_small hlt] at hr' hc' ⊢
        have c1 := hr'.head
        rw [b8_int (by omega)] at c1
        have a7 := and127 j (by omega)
        have a8 := and128 j (by omega)
        rw [Nat.mod_eq_of_lt hlt] at a7
        rw [Nat.div_eq_of_lt hlt] at a8
        have hr'' : Rd wr g (off' + 1) rest := Rd.app (l := [b8 j]) hr'
        obtain ⟨n1, hn1, hn2⟩ : ∃ n1, ([b8 j] ++ rest).length = n1 ∧ rest.length = n1 - 1 := ⟨_, rfl, by simp⟩
        have hn3 : 0 < n1 := by rw [← hn1]; simp
        rw [hn1] at hc' ⊢
        have HN2 := Lib.hid hn2
        clear hn1 hn2
        have HR := Lib.hid hr''; clear hr'' hr'
        have HM2 := Lib.hid hm'; clear hm'
        have hsw : IntKind.u64.wrap ((j : Int) * 2 ^ sh) = (j : Int) * 2 ^ sh := shl_fits j sh (by have := HSUM.out; omega)
        have haw : IntKind.u64.wrap ((acc : Int) + (j : Int) * 2 ^ sh) = (acc : Int) + (j : Int) * 2 ^ sh := add_fits acc j sh (by have := HSUM.out; omega)
        by_cases hc1' : cap' = 1
        · subst hc1'
          have : n1 = 1 := by omega
          subst this
          go_wp2_with fail
          go_ret3
          have hr0 : rest = [] := List.eq_nil_of_length_eq_zero (by rw [HN2.out])
          subst hr0
          refine ⟨_, ret_vi (sum_cast HSUM.out), ⟨off', 0, rfl, Nat.le_refl _, by unfold maxLen; omega, fun k b hb => by cases hb⟩, kk⟩
        · go_wp2_with fail
          go_ret3
          refine ⟨_, ret_vi (sum_cast HSUM.out), ⟨off' + 1, cap' - 1, by show Value.slice _ (n1 - 1) _ = _; rw [HN2.out], by rw [HN2.out]; omega, by have := HM2.out; omega, HR.out⟩, kk⟩
      · rw [cont_big hlt] at hr' hc' ⊢
        have c1 := hr'.head
        have hjb : 128 + j % 128 < 256 := by omega
        rw [b8_int hjb] at c1
        obtain ⟨bb, hbb⟩ : ∃ bb, 128 + j % 128 = bb := ⟨_, rfl⟩
        obtain ⟨q, hq⟩ : ∃ q, j / 128 = q := ⟨_, rfl⟩
        obtain ⟨r, hrr⟩ : ∃ r, j % 128 = r := ⟨_, rfl⟩
        have a7 := and127 bb (by omega)
        have a8 := and128 bb (by omega)
        rw [show bb % 128 = r from by omega] at a7
        rw [show bb / 128 = 1 from by omega] at a8
        rw [hbb] at c1 hr' hc' ⊢
        rw [hq] at hr' hc' ⊢
        have hr'' : Rd wr g (off' + 1) (cont q ++ rest) := Rd.app (l := [b8 bb]) hr'
        have hq1 : 1 ≤ q := by omega
        have hne : 0 < (cont q ++ rest).length := by
          rw [List.length_append]
          have : 0 < (cont q).length := by
            by_cases h : q < 128
            · rw [cont_small h]; simp
            · rw [cont_big h]; simp
          omega
        have hr128 : r < 128 := by omega
        have hstep := sum_step acc j sh
        rw [hq, hrr, HSUM.out] at hstep
        obtain ⟨n1, hn1, hn2⟩ : ∃ n1, (b8 bb :: cont q ++ rest).length = n1 ∧ (cont q ++ rest).length = n1 - 1 := ⟨_, rfl, by simp⟩
        have hn3 : 1 < n1 := by rw [← hn1]; simp at hne ⊢; omega
        rw [hn1] at hc' ⊢
        have HN2 := Lib.hid hn2
        clear hn1 hn2 hne hbb hq hrr hlt
        have HR := Lib.hid hr''; clear hr'' hr'
        have HM2 := Lib.hid hm'; clear hm'
        have hw0 : IntKind.u64.wrap (r : Int) = (r : Int) := IntWalk.u64_in _ (by omega)
        have hsw : IntKind.u64.wrap ((r : Int) * 2 ^ sh) = (r : Int) * 2 ^ sh := shl_fits r sh (by omega)
        have haw : IntKind.u64.wrap ((acc : Int) + (r : Int) * 2 ^ sh) = (acc : Int) + (r : Int) * 2 ^ sh := add_fits acc r sh (by omega)
        have hc1' : cap' ≠ 1 := by omega
        have b63 : decide ((63 : Int) ≤ (sh : Int) + 7) = false := by simp; omega
        have HST := Lib.hid hstep; clear hstep
        go_wp2_with fail
        refine ⟨⟨q, acc + r * 2 ^ sh, sh + 7, ⟨off' + 1, cap' - 1, by rw [HN2.out], by rw [HN2.out]; omega, by have := HM2.out; omega, HR.out⟩, ?_, by go_num, HST.out, .inr hq1, kk⟩, ?_⟩
        · first | rw [shl_cast, ← Int.natCast_add] | (rw [hw0, hsw, haw, shl_cast, ← Int.natCast_add])
        · show sliceLen (.slice _ (n1 - 1) _) < sliceLen (.slice _ n1 _)
          simp only [sliceLen]; omega
  · have ha' : bits .and .u64 (B : Int) 63 = 63 := ha
    have ht' : 63 + j0 = tot := htot
    have HT := Lib.hid ht'
    clear ha htot hi ht'
    go_enter Tryd.func62, Tryd.ntmps62
    go_wp2_with fail
    go_loopw [1, 4, 8] (BigRel w g tot rest) (fun p _ _ _ => sliceLen p)
    case atStart => exact ⟨j0, 63, 0, HR2.out, rfl, rfl, by have := HT.out; simp; omega, .inl rfl, Kept.refl _ _⟩
    case round =>
      obtain ⟨j, acc, sh, ⟨off', cap', rfl, hc', hm', hr'⟩, rfl, rfl, hsum, hsh, kk⟩ := hrel
      have hsh32 : sh < 32 := by
        rcases hsh with h | h
        · omega
        · apply Nat.lt_of_not_le; intro h32
          have := Nat.pow_le_pow_right (n := 2) (by omega) h32
          have := Nat.mul_le_mul h this
          omega
      replace hsh := Lib.hid hsh
      have HSUM := Lib.hid hsum; clear hsum
      by_cases hlt : j < 128
      · rw [cont_small hlt] at hr' hc' ⊢
        have c1 := hr'.head
        rw [b8_int (by omega)] at c1
        have a7 := and127 j (by omega)
        have a8 := and128 j (by omega)
        rw [Nat.mod_eq_of_lt hlt] at a7
        rw [Nat.div_eq_of_lt hlt] at a8
        have hr'' : Rd wr g (off' + 1) rest := Rd.app (l := [b8 j]) hr'
        obtain ⟨n1, hn1, hn2⟩ : ∃ n1, ([b8 j] ++ rest).length = n1 ∧ rest.length = n1 - 1 := ⟨_, rfl, by simp⟩
        have hn3 : 0 < n1 := by rw [← hn1]; simp
        rw [hn1] at hc' ⊢
        have HN2 := Lib.hid hn2
        clear hn1 hn2
        have HR := Lib.hid hr''; clear hr'' hr'
        have HM2 := Lib.hid hm'; clear hm'
        have hsw : IntKind.u64.wrap ((j : Int) * 2 ^ sh) = (j : Int) * 2 ^ sh := shl_fits j sh (by have := HSUM.out; omega)
        have haw : IntKind.u64.wrap ((acc : Int) + (j : Int) * 2 ^ sh) = (acc : Int) + (j : Int) * 2 ^ sh := add_fits acc j sh (by have := HSUM.out; omega)
        by_cases hc1' : cap' = 1
        · subst hc1'
          have : n1 = 1 := by omega
          subst this
          go_wp2_with fail
          go_ret3
          have hr0 : rest = [] := List.eq_nil_of_length_eq_zero (by rw [HN2.out])
          subst hr0
          refine ⟨_, ret_vi (sum_cast HSUM.out), ⟨off', 0, rfl, Nat.le_refl _, by unfold maxLen; omega, fun k b hb => by cases hb⟩, kk⟩
        · go_wp2_with fail
          go_ret3
          refine ⟨_, ret_vi (sum_cast HSUM.out), ⟨off' + 1, cap' - 1, by show Value.slice _ (n1 - 1) _ = _; rw [HN2.out], by rw [HN2.out]; omega, by have := HM2.out; omega, HR.out⟩, kk⟩
      · rw [cont_big hlt] at hr' hc' ⊢
        have c1 := hr'.head
        have hjb : 128 + j % 128 < 256 := by omega
        rw [b8_int hjb] at c1
        obtain ⟨bb, hbb⟩ : ∃ bb, 128 + j % 128 = bb := ⟨_, rfl⟩
        obtain ⟨q, hq⟩ : ∃ q, j / 128 = q := ⟨_, rfl⟩
        obtain ⟨r, hrr⟩ : ∃ r, j % 128 = r := ⟨_, rfl⟩
        have a7 := and127 bb (by omega)
        have a8 := and128 bb (by omega)
        rw [show bb % 128 = r from by omega] at a7
        rw [show bb / 128 = 1 from by omega] at a8
        rw [hbb] at c1 hr' hc' ⊢
        rw [hq] at hr' hc' ⊢
        have hr'' : Rd wr g (off' + 1) (cont q ++ rest) := Rd.app (l := [b8 bb]) hr'
        have hq1 : 1 ≤ q := by omega
        have hne : 0 < (cont q ++ rest).length := by
          rw [List.length_append]
          have : 0 < (cont q).length := by
            by_cases h : q < 128
            · rw [cont_small h]; simp
            · rw [cont_big h]; simp
          omega
        have hr128 : r < 128 := by omega
        have hstep := sum_step acc j sh
        rw [hq, hrr, HSUM.out] at hstep
        obtain ⟨n1, hn1, hn2⟩ : ∃ n1, (b8 bb :: cont q ++ rest).length = n1 ∧ (cont q ++ rest).length = n1 - 1 := ⟨_, rfl, by simp⟩
        have hn3 : 1 < n1 := by rw [← hn1]; simp at hne ⊢; omega
        rw [hn1] at hc' ⊢
        have HN2 := Lib.hid hn2
        clear hn1 hn2 hne hbb hq hrr hlt
        have HR := Lib.hid hr''; clear hr'' hr'
        have HM2 := Lib.hid hm'; clear hm'
        have hw0 : IntKind.u64.wrap (r : Int) = (r : Int) := IntWalk.u64_in _ (by omega)
        have hsw : IntKind.u64.wrap ((r : Int) * 2 ^ sh) = (r : Int) * 2 ^ sh := shl_fits r sh (by omega)
        have haw : IntKind.u64.wrap ((acc : Int) + (r : Int) * 2 ^ sh) = (acc : Int) + (r : Int) * 2 ^ sh := add_fits acc r sh (by omega)
        have hc1' : cap' ≠ 1 := by omega
        have b63 : decide ((63 : Int) ≤ (sh : Int) + 7) = false := by simp; omega
        have HST := Lib.hid hstep; clear hstep
        go_wp2_with fail
        refine ⟨⟨q, acc + r * 2 ^ sh, sh + 7, ⟨off' + 1, cap' - 1, by rw [HN2.out], by rw [HN2.out]; omega, by have := HM2.out; omega, HR.out⟩, ?_, by go_num, HST.out, .inr hq1, kk⟩, ?_⟩
        · first | rw [shl_cast, ← Int.natCast_add] | (rw [hw0, hsw, haw, shl_cast, ← Int.natCast_add])
        · show sliceLen (.slice _ (n1 - 1) _) < sliceLen (.slice _ n1 _)
          simp only [sliceLen]; omega
  · have ha' : bits .and .u64 (B : Int) 127 = 127 := ha
    have ht' : 127 + j0 = tot := htot
    have HT := Lib.hid ht'
    clear ha htot hi ht'
    go_enter Tryd.func62, Tryd.ntmps62
    go_wp2_with fail
    go_loopw [1, 4, 8] (BigRel w g tot rest) (fun p _ _ _ => sliceLen p)
    case atStart => exact ⟨j0, 127, 0, HR2.out, rfl, rfl, by have := HT.out; simp; omega, .inl rfl, Kept.refl _ _⟩
    case round =>
      obtain ⟨j, acc, sh, ⟨off', cap', rfl, hc', hm', hr'⟩, rfl, rfl, hsum, hsh, kk⟩ := hrel
      have hsh32 : sh < 32 := by
        rcases hsh with h | h
        · omega
        · apply Nat.lt_of_not_le; intro h32
          have := Nat.pow_le_pow_right (n := 2) (by omega) h32
          have := Nat.mul_le_mul h this
          omega
      replace hsh := Lib.hid hsh
      have HSUM := Lib.hid hsum; clear hsum
      by_cases hlt : j < 128
      · rw [cont_small hlt] at hr' hc' ⊢
        have c1 := hr'.head
        rw [b8_int (by omega)] at c1
        have a7 := and127 j (by omega)
        have a8 := and128 j (by omega)
        rw [Nat.mod_eq_of_lt hlt] at a7
        rw [Nat.div_eq_of_lt hlt] at a8
        have hr'' : Rd wr g (off' + 1) rest := Rd.app (l := [b8 j]) hr'
        obtain ⟨n1, hn1, hn2⟩ : ∃ n1, ([b8 j] ++ rest).length = n1 ∧ rest.length = n1 - 1 := ⟨_, rfl, by simp⟩
        have hn3 : 0 < n1 := by rw [← hn1]; simp
        rw [hn1] at hc' ⊢
        have HN2 := Lib.hid hn2
        clear hn1 hn2
        have HR := Lib.hid hr''; clear hr'' hr'
        have HM2 := Lib.hid hm'; clear hm'
        have hsw : IntKind.u64.wrap ((j : Int) * 2 ^ sh) = (j : Int) * 2 ^ sh := shl_fits j sh (by have := HSUM.out; omega)
        have haw : IntKind.u64.wrap ((acc : Int) + (j : Int) * 2 ^ sh) = (acc : Int) + (j : Int) * 2 ^ sh := add_fits acc j sh (by have := HSUM.out; omega)
        by_cases hc1' : cap' = 1
        · subst hc1'
          have : n1 = 1 := by omega
          subst this
          go_wp2_with fail
          go_ret3
          have hr0 : rest = [] := List.eq_nil_of_length_eq_zero (by rw [HN2.out])
          subst hr0
          refine ⟨_, ret_vi (sum_cast HSUM.out), ⟨off', 0, rfl, Nat.le_refl _, by unfold maxLen; omega, fun k b hb => by cases hb⟩, kk⟩
        · go_wp2_with fail
          go_ret3
          refine ⟨_, ret_vi (sum_cast HSUM.out), ⟨off' + 1, cap' - 1, by show Value.slice _ (n1 - 1) _ = _; rw [HN2.out], by rw [HN2.out]; omega, by have := HM2.out; omega, HR.out⟩, kk⟩
      · rw [cont_big hlt] at hr' hc' ⊢
        have c1 := hr'.head
        have hjb : 128 + j % 128 < 256 := by omega
        rw [b8_int hjb] at c1
        obtain ⟨bb, hbb⟩ : ∃ bb, 128 + j % 128 = bb := ⟨_, rfl⟩
        obtain ⟨q, hq⟩ : ∃ q, j / 128 = q := ⟨_, rfl⟩
        obtain ⟨r, hrr⟩ : ∃ r, j % 128 = r := ⟨_, rfl⟩
        have a7 := and127 bb (by omega)
        have a8 := and128 bb (by omega)
        rw [show bb % 128 = r from by omega] at a7
        rw [show bb / 128 = 1 from by omega] at a8
        rw [hbb] at c1 hr' hc' ⊢
        rw [hq] at hr' hc' ⊢
        have hr'' : Rd wr g (off' + 1) (cont q ++ rest) := Rd.app (l := [b8 bb]) hr'
        have hq1 : 1 ≤ q := by omega
        have hne : 0 < (cont q ++ rest).length := by
          rw [List.length_append]
          have : 0 < (cont q).length := by
            by_cases h : q < 128
            · rw [cont_small h]; simp
            · rw [cont_big h]; simp
          omega
        have hr128 : r < 128 := by omega
        have hstep := sum_step acc j sh
        rw [hq, hrr, HSUM.out] at hstep
        obtain ⟨n1, hn1, hn2⟩ : ∃ n1, (b8 bb :: cont q ++ rest).length = n1 ∧ (cont q ++ rest).length = n1 - 1 := ⟨_, rfl, by simp⟩
        have hn3 : 1 < n1 := by rw [← hn1]; simp at hne ⊢; omega
        rw [hn1] at hc' ⊢
        have HN2 := Lib.hid hn2
        clear hn1 hn2 hne hbb hq hrr hlt
        have HR := Lib.hid hr''; clear hr'' hr'
        have HM2 := Lib.hid hm'; clear hm'
        have hw0 : IntKind.u64.wrap (r : Int) = (r : Int) := IntWalk.u64_in _ (by omega)
        have hsw : IntKind.u64.wrap ((r : Int) * 2 ^ sh) = (r : Int) * 2 ^ sh := shl_fits r sh (by omega)
        have haw : IntKind.u64.wrap ((acc : Int) + (r : Int) * 2 ^ sh) = (acc : Int) + (r : Int) * 2 ^ sh := add_fits acc r sh (by omega)
        have hc1' : cap' ≠ 1 := by omega
        have b63 : decide ((63 : Int) ≤ (sh : Int) + 7) = false := by simp; omega
        have HST := Lib.hid hstep; clear hstep
        go_wp2_with fail
        refine ⟨⟨q, acc + r * 2 ^ sh, sh + 7, ⟨off' + 1, cap' - 1, by rw [HN2.out], by rw [HN2.out]; omega, by have := HM2.out; omega, HR.out⟩, ?_, by go_num, HST.out, .inr hq1, kk⟩, ?_⟩
        · first | rw [shl_cast, ← Int.natCast_add] | (rw [hw0, hsw, haw, shl_cast, ← Int.natCast_add])
        · show sliceLen (.slice _ (n1 - 1) _) < sliceLen (.slice _ n1 _)
          simp only [sliceLen]; omega
/-- readVarInt reads what appendVarInt has written, the first byte's upper bits whatever -/
theorem read_any (n first i g : Nat) (p : Value) (rest : List UInt8) (w : World) (hn : n = 4 ∨ n = 5 ∨ n = 6 ∨ n = 7) (hf1 : first % 2 ^ n = 0) (hf2 : first + 2 ^ n ≤ 256) (hi : i < 4294967296) (hr : RdV w g p (orF first (vi n i) ++ rest)) :
    Calls Tryd.prog 62 #[.int .u8 n, p] w (ViRead w i g rest) := by
  obtain ⟨off, cap, rfl, hle, hm, hr⟩ := hr
  have hp : 0 < 2 ^ n := Nat.two_pow_pos n
  by_cases h : i < 2 ^ n - 1
  · have hv : vi n i = [b8 i] := by unfold vi; rw [if_pos h]
    have hib : i < 256 := by omega
    have ho : orF first (vi n i) ++ rest = b8 (i + first) :: rest := by rw [hv]; simp only [orF, b8_toNat hib]; rfl
    rw [ho] at hle hr ⊢
    have hB : (i + first) % 2 ^ n = i := by rw [Nat.add_mod, hf1, Nat.add_zero, Nat.mod_mod, Nat.mod_eq_of_lt (by omega)]
    have := read_small n (i + first) g off cap rest w hn (by omega) (by omega) hle hm hr
    rw [hB] at this
    exact this
  · have hv : vi n i = b8 (2 ^ n - 1) :: cont (i - (2 ^ n - 1)) := by unfold vi; rw [if_neg h]
    have ho : orF first (vi n i) ++ rest = b8 (2 ^ n - 1 + first) :: (cont (i - (2 ^ n - 1)) ++ rest) := by rw [hv]; simp only [orF, b8_toNat (show 2 ^ n - 1 < 256 by omega)]; rfl
    rw [ho] at hle hr ⊢
    have hB : (2 ^ n - 1 + first) % 2 ^ n = 2 ^ n - 1 := by rw [Nat.add_mod, hf1, Nat.add_zero, Nat.mod_mod, Nat.mod_eq_of_lt (by omega)]
    have := read_big n (2 ^ n - 1 + first) g off cap (i - (2 ^ n - 1)) rest w hn (by omega) hB (by omega) hle hm hr
    rw [show 2 ^ n - 1 + (i - (2 ^ n - 1)) = i from by omega] at this
    exact this
theorem orF_zero (l : List UInt8) : orF 0 l = l := by
  cases l with
  | nil => rfl
  | cons b r => simp [orF, b8]
end Go.Proofs.YtoceghdnipjkfaaDoor
