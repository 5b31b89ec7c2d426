/-
  The decoder as it lies in memory; what takes its fields (the closure of Talk), callEmit.
-/
import Derived.Test.YtoceghdnipjkfaaDoorSend
import Derived.Test.YtoceghdnipjkfaaDoorRead
namespace Go.Proofs.YtoceghdnipjkfaaDoor
open Go.RowKit
attribute [local irreducible] st

/-- the closure that takes the fields into the box hb -/
def emV (hb : Nat) : Value := .func (.func 15) #[] #[.pointer (some ⟨hb, 0, none⟩)]
def EmitRet (r : Value) (w : World) (hb : Nat) (hv : Value) (l : List Fld) (e : Ending) (w' : World) : Prop :=
  ∃ hv', e = .returned r ∧ Blk w' hb [hv'] 46 ∧ w'.ownsRow 0 50 3 hv' l.length (l.flatMap fc) ∧ Kept (hb :: hv.ownBlock.toList) w w' ∧ NewBlk w hv hv'
set_option maxRecDepth 100000 in
set_option maxHeartbeats 1000000 in
theorem emit_any (hb : Nat) (hv : Value) (l : List Fld) (f : Fld) (w : World) (B : Blk w hb [hv] 46) (hrow : w.ownsRow 0 50 3 hv l.length (l.flatMap fc)) (hl : l.length ≤ 4000000) :
    Calls Tryd.prog 15 #[.agg #[.string f.name, .string f.value, .bool f.sens], .pointer (some ⟨hb, 0, none⟩)] w (EmitRet (.tuple #[]) w hb hv (l ++ [f])) := by
  obtain ⟨p, cap, hv', hcap, hm⟩ := ownsRow_slice hrow
  have hne := own_blk_ne hrow B (by decide)
  have hbl := B.lt
  subst hv'
  have HC := Lib.hid hcap; clear hcap
  have HM := Lib.hid hm; clear hm
  go_enter Tryd.func15, Tryd.ntmps15
  go_upto_region 1 with (fail)
  generalize hw1 : w.alloc _ = w1
  obtain ⟨k1, X1, hx1⟩ := box_cells (l := fc f) hw1
  have B1 := B.kept k1 (by simp)
  have R1 := ownsRow_kept hrow k1 (by simp)
  generalize hxe : w.heap.size = xb at X1 hx1 ⊢
  have HW := Lib.hid hw1; clear hw1
  have HX := Lib.hid hxe; clear hxe
  have c0 := B1.cell 0 rfl
  have x0 := X1.cell 0 rfl
  have x1 := X1.cell 1 rfl
  have x2 := X1.cell 2 rfl
  go_wp2_with (at_builtin; go_must (refine app_row _ 46 50 _ 3 40 Tryd.underlying46 info50 rfl rfl _ _ rfl _ l.length _ rfl R1 _ rfl (fc f) rfl rfl (by intro u hu; simp [fc] at hu; rcases hu with rfl | rfl | rfl <;> rfl) (by unfold maxLen; omega) (by omega) ?_; intro v2 w2 h6 h7 h8; have B2 := B1.kept (S := (Value.slice p l.length cap).ownBlock.toList) h7 (by simpa using fun e => hne e); have f2 := B2.frozen 0; have d2 := B2.cell 0 rfl; obtain ⟨p3, cap3, hv3, _⟩ := ownsRow_slice h6; subst hv3))
  go_end0
  have hne3 : ∀ g, (Value.slice p3 (l.length + 1) cap3).ownBlock = some g → g ≠ hb := by
    intro g hg e; subst e; exact own_blk_ne h6 B2 (by decide) hg
  have hlen : (l ++ [f]).length = l.length + 1 := by simp
  refine ⟨_, rfl, B2.set 0 _, ?_, ?_, h8.of_later k1.size⟩
  · rw [hlen, flat_snoc]
    exact ownsRow_kept h6 ((Kept.refl [hb] _).setCell (by simp) _) (by simpa using hne3)
  · exact ((k1.mono (by simp)).step h7 (by intro x hx; left; exact List.mem_cons_of_mem _ hx)).setCell (by simp) _

set_option maxRecDepth 100000 in
set_option maxHeartbeats 1000000 in
theorem call_emit (d hb : Nat) (hv : Value) (l : List Fld) (f : Fld) (w : World) (c8 : w.cell? ⟨d, 8, none⟩ = some (emV hb)) (c9 : w.cell? ⟨d, 9, none⟩ = some (.bool true)) (c10 : w.cell? ⟨d, 10, none⟩ = some (.int .i64 0))
    (B : Blk w hb [hv] 46) (hrow : w.ownsRow 0 50 3 hv l.length (l.flatMap fc)) (hl : l.length ≤ 4000000) :
    Calls Tryd.prog 64 #[.pointer (some ⟨d, 0, none⟩), .agg #[.string f.name, .string f.value, .bool f.sens]] w (EmitRet .nilIface w hb hv (l ++ [f])) := by
  have hd : d < w.heap.size := World.block_lt_of_cell? w _ c8
  unfold emV at c8
  go_enter Tryd.func64, Tryd.ntmps64
  go_upto_region 1 with (fail)
  generalize hw1 : w.alloc _ = w1
  obtain ⟨k1, X1, hx1⟩ := box_cells (l := fc f) hw1
  have B1 := B.kept k1 (by simp)
  have R1 := ownsRow_kept hrow k1 (by simp)
  have c8 := k1.cell c8 (by simp)
  have c9 := k1.cell c9 (by simp)
  have c10 := k1.cell c10 (by simp)
  have hne := own_blk_ne hrow B (by decide)
  generalize hxe : w.heap.size = xb at X1 hx1 hd ⊢
  have HW := Lib.hid hw1; clear hw1
  have HX := Lib.hid hxe; clear hxe
  have x0 := X1.cell 0 rfl
  have x1 := X1.cell 1 rfl
  have x2 := X1.cell 2 rfl
  go_upto_region 5 with (fail)
  go_region_with ((go_at_call 15; refine (emit_any hb hv l f _ ((B1.drew)) (by exact R1) hl).mono ?_; rintro e w2 ⟨hv2, rfl, B2, R2, K2, N2⟩))
  all_goals
    go_wp2_with fail
    go_ret
    exact ⟨hv2, rfl, B2, R2, ((k1.mono (by simp)).drew).trans K2, N2.of_later (by simpa using k1.size)⟩
end Go.Proofs.YtoceghdnipjkfaaDoor
