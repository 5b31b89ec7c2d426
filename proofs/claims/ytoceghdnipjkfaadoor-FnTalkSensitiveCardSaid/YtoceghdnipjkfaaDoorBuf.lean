/-
  bytes.Buffer's contracts, off the kit's shelf, at this program's numbers.
-/
import Derived.Test.YtoceghdnipjkfaaDoorVarInt
import Derived.Shelf.Bytes.WriteByteKept
import Derived.Shelf.Bytes.ResetKept
import Derived.Shelf.Bytes.String
namespace Go.Proofs.YtoceghdnipjkfaaDoor
open Go.Shelf Go.RowKit

def ren179 : Ren := ⟨fun | 179 => 75 | 251 => 52 | 252 => 53 | 181 => 35 | 184 => 38 | 290 => 61 | 324 => 69 | n => n, fun | 130 => 102 | 5 => 5 | 75 => 54 | 0 => 0 | 93 => 78 | 91 => 76 | 3 => 3 | 131 => 103 | 4 => 4 | 37 => 31 | 20 => 20 | 80 => 134 | 9 => 9 | n => n, fun | 14 => 3 | n => n⟩
def ren182 : Ren := ⟨fun | 182 => 73 | n => n, fun | 130 => 102 | 9 => 9 | 4 => 4 | 0 => 0 | 93 => 78 | 37 => 31 | 3 => 3 | 91 => 76 | 5 => 5 | n => n, fun n => n⟩
def ren184 : Ren := ⟨fun | 184 => 38 | n => n, fun | 130 => 102 | 0 => 0 | 93 => 78 | 37 => 31 | 3 => 3 | 91 => 76 | 5 => 5 | n => n, fun n => n⟩
theorem lays179 : LaysM.n179 Tryd.prog ren179 := by
  constructor
  · constructor <;> (intros; kernel_rfl)
  all_goals (intros; kernel_rfl)
theorem lays182 : LaysM.n182 Tryd.prog ren182 := by
  constructor
  · constructor <;> (intros; kernel_rfl)
  all_goals (intros; kernel_rfl)
theorem lays184 : LaysM.n184 Tryd.prog ren184 := by
  constructor
  · constructor <;> (intros; kernel_rfl)
  all_goals (intros; kernel_rfl)

/-- the buffer at block b, of the call's own from B on, holds these bytes -/
def IsBuf (B b : Nat) (l : List UInt8) (w : World) : Prop := Lib.IsBuffer 78 5 B b (bc l) w
/-- what a writer leaves -/
structure BufKept (B b : Nat) (w w' : World) : Prop where
  below : Below B w w'
  others : Lib.OthersKept 5 (some b) w w'
theorem write_byte (B b : Nat) (l : List UInt8) (c : UInt8) (w : World) (h : IsBuf B b l w) (hB : B ≤ w.heap.size) (hl : l.length + 1 ≤ 140737488355328) :
    Calls Tryd.prog 75 #[.pointer (some ⟨b, 0, none⟩), .int .u8 c.toNat] w fun e w' => e = .returned .nilIface ∧ IsBuf B b (l ++ [c]) w' ∧ BufKept B b w w' := by
  refine (Any.Buffer_WriteByte_kept lays179 B b (bc l) c.toNat w h hB (bc_one l) (by rw [bc_length]; exact hl)).mono ?_
  rintro e w' ⟨h1, h2, h3, h4⟩
  exact ⟨h1, by unfold IsBuf; rw [bc_append]; exact h2, h3, h4⟩
theorem buf_string (B b : Nat) (l : List UInt8) (w : World) (h : IsBuf B b l w) :
    Calls Tryd.prog 73 #[.pointer (some ⟨b, 0, none⟩)] w fun e w' => e = .returned (.string ⟨l.toArray⟩) ∧ ∃ n, w' = w.drewN n :=
  Any.Buffer_String lays182 B b l w h
theorem buf_reset (B b : Nat) (l : List UInt8) (w : World) (h : IsBuf B b l w) :
    Calls Tryd.prog 38 #[.pointer (some ⟨b, 0, none⟩)] w fun e w' => e = .returned (.tuple #[]) ∧ IsBuf B b [] w' ∧ BufKept B b w w' := by
  refine (Any.Buffer_Reset_kept lays184 B b (bc l) w h).mono ?_
  rintro e w' ⟨h1, h2, h3, h4⟩
  exact ⟨h1, h2, h3, h4⟩
theorem fresh_buf (w : World) : IsBuf w.heap.size w.heap.size [] (w.alloc (.cells #[.slice none 0 0, .int .i64 0, .int .i8 0] 78)) := Lib.fresh_isBuffer 78 5 w
end Go.Proofs.YtoceghdnipjkfaaDoor
