/-
  Contracts of the small functions of hpack that only look or compute: len, Size, encodeTypeByte, indexed, sensitive, idToIndex, ZZSize, (*bytes.Buffer).Len.
-/
import Derived.Test.YtoceghdnipjkfaaDoorBase
namespace Go.Proofs.YtoceghdnipjkfaaDoor
open Go.RowKit

structure Fld where
  name : ByteArray
  value : ByteArray
  sens : Bool
/-- a field as a value, and as cells -/
def fc (f : Fld) : List Value := [.string f.name, .string f.value, .bool f.sens]
def fsz (f : Fld) : Nat := f.name.size + f.value.size + 32

theorem len_any (b n c : Nat) (o : Nat) (p : Option Addr) (w : World) (c1 : w.cell? ⟨b, o + 1, none⟩ = some (.slice p n c)) :
    Calls Tryd.prog 47 #[.pointer (some ⟨b, o, none⟩)] w fun e w' => e = .returned (.int .i64 n) ∧ w = w' := by
  go_enter Tryd.func47, Tryd.ntmps47
  go_wp2
  go_ret
  exact ⟨rfl, rfl⟩

theorem size_any (n v : ByteArray) (s : Bool) (w : World) (h : n.size + v.size ≤ 4000000) :
    Calls Tryd.prog 48 #[.agg #[.string n, .string v, .bool s]] w fun e w' => e = .returned (.int .u32 (n.size + v.size + 32 : Nat)) ∧ Kept [] w w' := by
  go_enter Tryd.func48, Tryd.ntmps48
  go_wp2
  go_ret
  exact ⟨rfl, (Kept.refl _ _).alloc _⟩

theorem len_same (b n c : Nat) (o : Nat) (p : Option Addr) (w : World) (c1 : w.cell? ⟨b, o + 1, none⟩ = some (.slice p n c)) :
    Calls Tryd.prog 47 #[.pointer (some ⟨b, o, none⟩)] w fun e w' => e = .returned (.int .i64 n) ∧ w' = w :=
  (len_any b n c o p w c1).mono fun _ _ ⟨a, b⟩ => ⟨a, b.symm⟩

def typeByte (indexing sensitive : Bool) : Nat := if sensitive then 16 else if indexing then 64 else 0
theorem tbyte_any (i s : Bool) (w : World) :
    Calls Tryd.prog 50 #[.bool i, .bool s] w fun e w' => e = .returned (.int .u8 (typeByte i s : Nat)) ∧ w = w' := by
  cases i <;> cases s <;>
  · go_enter Tryd.func50, Tryd.ntmps50
    go_wp2
    go_ret
    exact ⟨rfl, rfl⟩

theorem indexed_any (n : Int) (w : World) :
    Calls Tryd.prog 65 #[.int .i64 n] w fun e w' => e = .returned (.bool (n == 0)) ∧ w = w' := by
  go_enter Tryd.func65, Tryd.ntmps65
  go_wp2
  go_ret
  exact ⟨rfl, rfl⟩
theorem sensitive_any (n : Int) (w : World) :
    Calls Tryd.prog 68 #[.int .i64 n] w fun e w' => e = .returned (.bool (n == 2)) ∧ w = w' := by
  go_enter Tryd.func68, Tryd.ntmps68
  go_wp2
  go_ret
  exact ⟨rfl, rfl⟩

/-- idToIndex in a dynamic table -/
theorem id_dyn (b : Nat) (p : Option Addr) (n c E id : Nat) (w : World) (c0 : w.cell? ⟨b, 0, none⟩ = some (.bool false)) (c1 : w.cell? ⟨b, 1, none⟩ = some (.slice p n c)) (c2 : w.cell? ⟨b, 2, none⟩ = some (.int .u64 E))
    (h1 : E < id) (h2 : id ≤ E + n) (h3 : E + n < 9223372036854775807) :
    Calls Tryd.prog 58 #[.pointer (some ⟨b, 0, none⟩), .int .u64 id] w fun e w' => e = .returned (.int .u64 (E + n + 1 - id : Nat)) ∧ w = w' := by
  go_enter Tryd.func58, Tryd.ntmps58
  go_wp2_with (go_at_call 47; refine (len_any b n c 0 p _ (by assumption)).mono ?_; rintro e w' ⟨rfl, rfl⟩)
  go_ret
  exact ⟨ret_int (by omega), rfl⟩
/-- idToIndex in the static table -/
theorem id_stat (b : Nat) (id : Nat) (w : World) (c0 : w.cell? ⟨b, 0, none⟩ = some (.bool true)) (c2 : w.cell? ⟨b, 2, none⟩ = some (.int .u64 0))
    (h1 : 0 < id) (h2 : id < 100000) :
    Calls Tryd.prog 58 #[.pointer (some ⟨b, 0, none⟩), .int .u64 id] w fun e w' => e = .returned (.int .u64 id) ∧ w = w' := by
  go_enter Tryd.func58, Tryd.ntmps58
  go_wp2_with fail
  go_ret
  exact ⟨rfl, rfl⟩

theorem ezz_any (b : Nat) (s m l : Int) (w : World) (c5 : w.cell? ⟨b, 5, none⟩ = some (.int .u32 s)) (c6 : w.cell? ⟨b, 6, none⟩ = some (.int .u32 m)) (c9 : w.cell? ⟨b, 9, none⟩ = some (.int .u32 l)) :
    Calls Tryd.prog 21 #[.pointer (some ⟨b, 0, none⟩)] w fun e w' => e = .returned (.tuple #[.int .u32 s, .int .u32 m, .int .u32 l]) ∧ Kept [] w w' := by
  go_enter Tryd.func21, Tryd.ntmps21
  go_wp2
  go_quiet (fail)
  go_wp2
  go_ret3
  exact ⟨rfl, (Kept.refl _ _).drewN _⟩
theorem dzz_any (b : Nat) (s m l : Int) (w : World) (c5 : w.cell? ⟨b, 5, none⟩ = some (.int .u32 s)) (c6 : w.cell? ⟨b, 6, none⟩ = some (.int .u32 m)) (c7 : w.cell? ⟨b, 7, none⟩ = some (.int .u32 l)) :
    Calls Tryd.prog 23 #[.pointer (some ⟨b, 0, none⟩)] w fun e w' => e = .returned (.tuple #[.int .u32 s, .int .u32 m, .int .u32 l]) ∧ Kept [] w w' := by
  go_enter Tryd.func23, Tryd.ntmps23
  go_wp2
  go_quiet (fail)
  go_wp2
  go_ret3
  exact ⟨rfl, (Kept.refl _ _).drewN _⟩

theorem buflen_any (b o : Nat) (p : Option Addr) (n c k : Nat) (w : World) (c0 : w.cell? ⟨b, o, none⟩ = some (.slice p n c)) (c1 : w.cell? ⟨b, o + 1, none⟩ = some (.int .i64 k)) (h1 : k ≤ n) (h2 : n < 9223372036854775807) :
    Calls Tryd.prog 35 #[.pointer (some ⟨b, o, none⟩)] w fun e w' => e = .returned (.int .i64 (n - k : Nat)) ∧ Kept [] w w' := by
  go_enter Tryd.func35, Tryd.ntmps35
  go_wp2
  go_quiet (fail)
  go_wp2
  go_ret
  exact ⟨ret_int (by omega), (Kept.refl _ _).drewN _⟩
end Go.Proofs.YtoceghdnipjkfaaDoor
