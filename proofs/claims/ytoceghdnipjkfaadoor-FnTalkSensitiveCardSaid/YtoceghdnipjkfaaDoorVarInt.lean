/-
  hpack.appendVarInt appends the bytes of the integer (RFC 7541, 5.1) to a row of bytes.
-/
import Derived.Test.YtoceghdnipjkfaaDoorBase
namespace Go.Proofs.YtoceghdnipjkfaaDoor
open Go.RowKit

theorem info5 : (Tryd.prog.info? 5).map (fun i => (i.zero, i.size, i.bytes)) = some (some (.int .u8 0), 1, 1) := by kernel_rfl

/-- bytes as cells -/
def bc (l : List UInt8) : List Value := l.map fun b => Value.int .u8 b.toNat
theorem bc_append (a b : List UInt8) : bc (a ++ b) = bc a ++ bc b := by simp [bc]
theorem bc_length (a : List UInt8) : (bc a).length = a.length := by simp [bc]
theorem bc_one (a : List UInt8) : ∀ u ∈ bc a, u.oneCell' = true := by
  intro u hu; obtain ⟨b, _, rfl⟩ := List.mem_map.1 hu; rfl
/-- v owns a row of just these bytes -/
def Bts (w : World) (v : Value) (l : List UInt8) : Prop := w.ownsRow 0 5 1 v l.length (bc l)

/-- behind w, w': what v has become (v') owns the bytes l' -/
structure AppTo (w w' : World) (v v' : Value) (l' : List UInt8) : Prop where
  own : Bts w' v' l'
  kept : Kept v.ownBlock.toList w w'
  blk : NewBlk w v v'
def RetApp (w : World) (v : Value) (l' : List UInt8) (e : Ending) (w' : World) : Prop := ∃ v', e = .returned v' ∧ AppTo w w' v v' l'

theorem AppTo.refl {w : World} {v : Value} {l : List UInt8} (h : Bts w v l) : AppTo w w v v l := ⟨h, Kept.refl _ _, .inl rfl⟩
theorem AppTo.trans {w w1 w2 : World} {v v1 v2 : Value} {l1 l2 : List UInt8} (h : AppTo w w1 v v1 l1) (k : AppTo w1 w2 v1 v2 l2) : AppTo w w2 v v2 l2 := by
  refine ⟨k.own, h.kept.step k.kept ?_, ?_⟩
  · intro b hb
    have hb' : v1.ownBlock = some b := by simpa [eq_comm] using hb
    rcases h.blk with e | ⟨g, e, hg⟩
    · left; rw [← e, hb']; simp
    · right; rw [hb'] at e; obtain rfl := Option.some.inj e; exact hg
  · rcases k.blk with e | ⟨g, e, hg⟩
    · rcases h.blk with e1 | ⟨g, e1, hg⟩
      · exact .inl (e.trans e1)
      · exact .inr ⟨g, e.trans e1, hg⟩
    · exact .inr ⟨g, e, Nat.le_trans h.kept.size hg⟩
/-- a box of the call's own behind it -/
theorem AppTo.alloc {w w1 : World} {v v1 : Value} {l1 : List UInt8} (h : AppTo w w1 v v1 l1) (o : Obj) : AppTo w (w1.alloc o) v v1 l1 :=
  ⟨World.ownsRow.alloc h.own o, h.kept.alloc o, h.blk⟩
theorem AppTo.drew {w w1 : World} {v v1 : Value} {l1 : List UInt8} (h : AppTo w w1 v v1 l1) : AppTo w w1.drew v v1 l1 := ⟨h.own, h.kept.drew, h.blk⟩


/-- 'append(dst, b1, .., bk)': the literal's row has just been made. -/
theorem app_lit (W : World) {ops : Array Oper} {rest : List Oper} {o : Oper} {a : Act} {Q : Exit → Act → World → Prop} (hgd : o.guard = none) (s x : Operand)
    (ho : o.op = .call { callee := .builtin .append, args := #[s, x], argTypes := #[31, 31] }) (v : Value) (l : List UInt8) (hsv : a.eval s = v) (hown : Bts W v l)
    (cs : Array Value) (k : Nat) (hx : a.eval x = .slice (some ⟨W.heap.size, 0, none⟩) k k) (bs : List UInt8) (hcs : cs.toList = bc bs) (hk : bs.length = k) (hlen : l.length + k ≤ 140737488355328)
    (h : ∀ v' w', AppTo W w' v v' (l ++ bs) → (0 < k → v'.ownBlock.isSome = true) → wpList Tryd.prog ops Q rest (a.put o.dst v') w') : wpList Tryd.prog ops Q (o :: rest) a (W.alloc (.cells cs 5)) := by
  obtain ⟨i0, hi0, hz0, hz1, hz2⟩ := info_parts info5
  have hsrc : Src Tryd.prog 1 31 (.slice (some ⟨W.heap.size, 0, none⟩) k k) k (bc bs) (W.alloc (.cells cs 5)) := by
    refine Src.ofSlice _ Tryd.underlying31 _ k k (bc bs) (by rw [bc_length, hk, Nat.mul_one]) (fun j u hj => ?_) (bc_one _)
    rw [Addr.add_lit, Nat.zero_add, World.cell?_alloc_new, ← Array.getElem?_toList, hcs]
    exact hj
  refine wpList_app _ hgd s x 31 31 ho 5 i0 _ 1 1 Tryd.underlying31 hi0 hz0 hz1 hz2 rfl v l.length (bc l) hsv (World.ownsRow.alloc hown _) _ hx k (bc bs) hsrc (by unfold maxLen; omega) (by omega) ?_
  intro v' w' h1 h2 h3 h4
  refine h v' w' ⟨?_, ?_, ?_⟩ h4
  · unfold Bts; rw [List.length_append, hk, bc_append]; exact h1
  · exact ((Kept.refl _ W).alloc _).step h2 (fun b hb => .inl hb)
  · rcases h3 with e | ⟨g, e, hg⟩
    · exact .inl e
    · exact .inr ⟨g, e, by simp at hg; omega⟩

/-- a byte by its number (a name that simp doesn't open) -/
def b8 (n : Nat) : UInt8 := UInt8.ofNat n
theorem b8_toNat {a : Nat} (h : a < 256) : (b8 a).toNat = a := by
  simp [b8, UInt8.toNat_ofNat', Nat.mod_eq_of_lt h]
theorem b8_int {a : Nat} (h : a < 256) : ((b8 a).toNat : Int) = a := by rw [b8_toNat h]

def cont (j : Nat) : List UInt8 := if j < 128 then [b8 j] else b8 (128 + j % 128) :: cont (j / 128)
termination_by j
decreasing_by omega
/-- RFC 7541, 5.1, the bits above the prefix 0 -/
def vi (n i : Nat) : List UInt8 := if i < 2 ^ n - 1 then [b8 i] else b8 (2 ^ n - 1) :: cont (i - (2 ^ n - 1))


set_option maxRecDepth 100000 in
set_option maxHeartbeats 400000 in
theorem vi_small (v : Value) (l : List UInt8) (n i : Nat) (w : World) (hown : Bts w v l) (hn : n = 4 ∨ n = 5 ∨ n = 6 ∨ n = 7) (hi : i < 2 ^ n - 1) (hl : l.length ≤ 4294967296) :
    Calls Tryd.prog 44 #[v, .int .u8 n, .int .u64 i] w (RetApp w v (l ++ vi n i)) := by
  have hvi : vi n i = [b8 i] := by unfold vi; rw [if_pos hi]
  rw [hvi]
  have hb : i < 256 := by rcases hn with rfl | rfl | rfl | rfl <;> omega
  have H := Lib.hid hl; clear hl hvi
  rcases hn with rfl | rfl | rfl | rfl
  all_goals
    simp at hi
    go_enter Tryd.func44, Tryd.ntmps44
    go_wp2_with (at_builtin; refine app_lit _ rfl _ _ rfl _ l rfl hown _ 1 rfl [b8 i] ?c1 rfl (by have := H.out; omega) ?_; rotate_right; intro v1 w1 h1 h2)
    case c1 => simp only [bc, List.map_cons, List.map_nil]; rw [b8_int hb]
    go_ret
    exact ⟨_, rfl, h1⟩

theorem cont_small {j : Nat} (h : j < 128) : cont j = [b8 j] := by rw [cont, if_pos h]
theorem cont_big {j : Nat} (h : ¬ j < 128) : cont j = b8 (128 + j % 128) :: cont (j / 128) := by rw [cont, if_neg h]

theorem vi_byte (j : Nat) (hj : j < 18446744073709551616) : bits .or .u64 128 (bits .and .u64 (j : Int) 127) % 256 = ((128 + j % 128 : Nat) : Int) := by
  have h1 : bits .and .u64 (j : Int) 127 = ((j % 128 : Nat) : Int) := by
    rw [show (127 : Int) = ((127 : Nat) : Int) from rfl, u64_and_nat j 127 hj (by omega), nat_mask7]
  rw [h1, show (128 : Int) = ((128 : Nat) : Int) from rfl, u64_or_nat 128 (j % 128) (by omega) (by omega), nat_join 7 128 (j % 128) (by omega) (by omega)]
  omega

def ViRel (w : World) (v : Value) (l' : List UInt8) (i : Nat) (a b : Value) (wr : World) : Prop :=
  ∃ l1 j, b = .int .u64 (j : Nat) ∧ j ≤ i ∧ AppTo w wr v a l1 ∧ l1 ++ cont j = l' ∧ l1.length + j ≤ 4294967296 * 2

set_option maxRecDepth 100000 in
set_option maxHeartbeats 1000000 in
theorem vi_big (v : Value) (l : List UInt8) (n i : Nat) (w : World) (hown : Bts w v l) (hn : n = 4 ∨ n = 5 ∨ n = 6 ∨ n = 7) (hi : 2 ^ n - 1 ≤ i) (hi2 : i < 4294967296) (hl : l.length + 4 ≤ 4294967296) :
    Calls Tryd.prog 44 #[v, .int .u8 n, .int .u64 i] w (RetApp w v (l ++ vi n i)) := by
  have hvi : vi n i = b8 (2 ^ n - 1) :: cont (i - (2 ^ n - 1)) := by unfold vi; rw [if_neg (by omega)]
  rw [hvi]
  obtain ⟨kk, hkk⟩ : ∃ kk, 2 ^ n - 1 = kk := ⟨_, rfl⟩
  rw [hkk] at hi ⊢
  have hkb : kk < 256 := by rcases hn with rfl | rfl | rfl | rfl <;> omega
  have HK := Lib.hid hkk; clear hkk
  have H := Lib.hid hl; clear hl hvi
  rcases hn with rfl | rfl | rfl | rfl
  all_goals
    have hi' := hi
    rw [← HK.out] at hi'
    simp at hi'
    go_enter Tryd.func44, Tryd.ntmps44
    go_wp2_with (at_builtin; go_must (refine app_lit _ rfl _ _ rfl _ l rfl hown _ 1 rfl [b8 kk] ?c1 rfl (by have := H.out; omega) ?_; rotate_right; intro v1 w1 h1 h2))
    case c1 => rw [← HK.out]; rfl
    go_loopw [0, 2] (ViRel w v (l ++ b8 kk :: cont (i - kk)) i) (fun _ b _ => (intOf b).toNat)
    case atStart => exact ⟨l ++ [b8 kk], i - kk, by rw [← HK.out]; go_num, by omega, h1, by simp, by have := H.out; simp; omega⟩
    case round =>
      obtain ⟨l1, j, rfl, hj, h3, h4, h5⟩ := hrel
      have H4 := Lib.hid h4; clear h4
      have H5 := Lib.hid h5; clear h5
      have h3o := h3.own
      by_cases hlt : j < 128
      · go_wp2_with (at_builtin; go_must (refine app_lit _ rfl _ _ rfl _ l1 rfl h3o _ 1 rfl [b8 j] ?c1 rfl (by have := H5.out; omega) ?_; rotate_right; intro v2 w2 h6 h7))
        case c1 => simp only [bc, List.map_cons, List.map_nil]; rw [b8_int (by omega)]
        go_ret
        refine ⟨_, rfl, ?_⟩
        have h8 := h3.trans h6
        rw [← cont_small hlt, H4.out] at h8
        exact h8
      · go_wp2_with (at_builtin; go_must (refine app_lit _ rfl _ _ rfl _ l1 rfl h3o _ 1 rfl [b8 (128 + j % 128)] ?c1 rfl (by have := H5.out; omega) ?_; rotate_right; intro v2 w2 h6 h7))
        case c1 => rw [vi_byte j (by omega)]; simp only [bc, List.map_cons, List.map_nil]; rw [b8_int (by omega)]
        have h8 := h3.trans h6
        refine ⟨⟨_, j / 128, by go_num, by omega, h8, ?_, ?_⟩, ?_⟩
        · have h9 := H4.out
          rw [cont_big hlt] at h9
          rw [List.append_assoc]; exact h9
        · have := H5.out
          simp; omega
        · simp [intOf]; omega

/-- appendVarInt -/
theorem vi_any (v : Value) (l : List UInt8) (n i : Nat) (w : World) (hown : Bts w v l) (hn : n = 4 ∨ n = 5 ∨ n = 6 ∨ n = 7) (hi2 : i < 4294967296) (hl : l.length + 4 ≤ 4294967296) :
    Calls Tryd.prog 44 #[v, .int .u8 n, .int .u64 i] w (RetApp w v (l ++ vi n i)) := by
  by_cases hi : i < 2 ^ n - 1
  · exact vi_small v l n i w hown hn hi (by omega)
  · exact vi_big v l n i w hown hn (by omega) hi2 hl
#print axioms vi_any
end Go.Proofs.YtoceghdnipjkfaaDoor
