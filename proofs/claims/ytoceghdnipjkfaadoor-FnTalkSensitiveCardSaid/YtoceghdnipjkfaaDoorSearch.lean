/-
  Looking a field up in a table; making a table.
-/
import Derived.Test.YtoceghdnipjkfaaDoorDyn
namespace Go.Proofs.YtoceghdnipjkfaaDoor
open Go.RowKit

def searchRes (f : Fld) (i1 i2 : Nat) (g : Nat → Nat) : Nat × Bool :=
  if f.sens = false ∧ i2 ≠ 0 then (g i2, true) else if i1 ≠ 0 then (g i1, false) else (0, false)

set_option maxRecDepth 100000 in
set_option maxHeartbeats 2000000 in
theorem search_gen (b m1 m2 : Nat) (f : Fld) (i1 i2 : Nat) (g : Nat → Nat) (w : World) (c3 : w.cell? ⟨b, 3, none⟩ = some (.map (some m1))) (c4 : w.cell? ⟨b, 4, none⟩ = some (.map (some m2)))
    {al1 : List (ByteArray × Value)} {al2 : List ((ByteArray × ByteArray) × Value)} (A1 : AMap kS w m1 al1) (A2 : AMap kP w m2 al2) (h1 : aget al1 f.name = idv i1) (h2 : aget al2 (f.name, f.value) = idv i2)
    (hid : ∀ i, (i = i1 ∨ i = i2) → i ≠ 0 → ∀ w', Kept [] w w' → Calls Tryd.prog 58 #[.pointer (some ⟨b, 0, none⟩), .int .u64 i] w' fun e w'' => e = .returned (.int .u64 (g i)) ∧ w' = w'') :
    Calls Tryd.prog 46 #[.pointer (some ⟨b, 0, none⟩), .agg #[.string f.name, .string f.value, .bool f.sens]] w fun e w' => e = .returned (.tuple #[.int .u64 (searchRes f i1 i2 g).1, .bool (searchRes f i1 i2 g).2]) ∧ Kept [] w w' := by
  obtain ⟨fn, fv, fs⟩ := f
  cases fs
  · go_enter Tryd.func46, Tryd.ntmps46
    go_wp2_with fail
    generalize hw1 : w.alloc _ = w1
    obtain ⟨k1, X1, hx1⟩ := box_cells (l := fc ⟨fn, fv, false⟩) hw1
    have A1 := A1.kept k1 (by simp)
    have A2 := A2.kept k1 (by simp)
    have c3 := k1.cell c3 (by simp)
    have c4 := k1.cell c4 (by simp)
    generalize hxe : w.heap.size = xb at X1 hx1 ⊢
    have HW := Lib.hid hw1; clear hw1
    have HX := Lib.hid hxe; clear hxe
    have x2 := X1.cell 2 rfl
    have x0 := X1.cell 0 rfl
    have x1 := X1.cell 1 rfl
    have q1 : ∀ j, (Instr.lookup 67 (.map (some m1)) (.string fn) false).run Tryd.prog (w1.drewN j) = .ok (.int .u64 i1) (w1.drewN j) := by
      intro j
      have := run_lookup_a (P := Tryd.prog) (w := w1.drewN j) (keyS Tryd.underlying9) Tryd.underlying67 (.int .u64 0) (zero66 _) A1 fn
      rw [h1, idv_getD] at this
      exact this
    have q2 : ∀ j, (Instr.lookup 68 (.map (some m2)) (.agg #[.string fn, .string fv]) false).run Tryd.prog (w1.drewN j) = .ok (.int .u64 i2) (w1.drewN j) := by
      intro j
      have := run_lookup_a (P := Tryd.prog) (w := w1.drewN j) keyP Tryd.underlying68 (.int .u64 0) (zero66 _) A2 (fn, fv)
      rw [h2, idv_getD] at this
      exact this
    have H1 := Lib.hid h1; clear h1
    have H2 := Lib.hid h2; clear h2
    have k2 : ∀ n, Kept [] w (w1.drewN n) := fun n => k1.drewN n
    by_cases e2 : i2 = 0
    · have b2 : ((i2 : Int) != 0) = false := by simp; omega
      go_quiet (fail)
      go_wp2_with fail
      clear q2
      by_cases e1 : i1 = 0
      · have b1 : ((i1 : Int) != 0) = false := by simp; omega
        go_quiet (fail)
        go_wp2_with fail
        go_ret2
        exact ⟨by simp [searchRes, e2, e1], k2 _⟩
      · have b1 : ((i1 : Int) != 0) = true := by simp; omega
        go_quiet (fail)
        go_wp2_with (go_at_call 58; refine (hid i1 (.inl rfl) e1 _ (k2 _)).mono ?_; rintro e w' ⟨rfl, rfl⟩)
        go_ret2
        exact ⟨by simp [searchRes, e2, e1], k2 _⟩
    · have b2 : ((i2 : Int) != 0) = true := by simp; omega
      go_quiet (fail)
      go_wp2_with (go_at_call 58; refine (hid i2 (.inr rfl) e2 _ (k2 _)).mono ?_; rintro e w' ⟨rfl, rfl⟩)
      go_ret2
      exact ⟨by simp [searchRes, e2], k2 _⟩
  · go_enter Tryd.func46, Tryd.ntmps46
    go_wp2_with fail
    generalize hw1 : w.alloc _ = w1
    obtain ⟨k1, X1, hx1⟩ := box_cells (l := fc ⟨fn, fv, true⟩) hw1
    have A1 := A1.kept k1 (by simp)
    have A2 := A2.kept k1 (by simp)
    have c3 := k1.cell c3 (by simp)
    have c4 := k1.cell c4 (by simp)
    generalize hxe : w.heap.size = xb at X1 hx1 ⊢
    have HW := Lib.hid hw1; clear hw1
    have HX := Lib.hid hxe; clear hxe
    have x2 := X1.cell 2 rfl
    have x0 := X1.cell 0 rfl
    have x1 := X1.cell 1 rfl
    have q1 : ∀ j, (Instr.lookup 67 (.map (some m1)) (.string fn) false).run Tryd.prog (w1.drewN j) = .ok (.int .u64 i1) (w1.drewN j) := by
      intro j
      have := run_lookup_a (P := Tryd.prog) (w := w1.drewN j) (keyS Tryd.underlying9) Tryd.underlying67 (.int .u64 0) (zero66 _) A1 fn
      rw [h1, idv_getD] at this
      exact this
    have q2 : ∀ j, (Instr.lookup 68 (.map (some m2)) (.agg #[.string fn, .string fv]) false).run Tryd.prog (w1.drewN j) = .ok (.int .u64 i2) (w1.drewN j) := by
      intro j
      have := run_lookup_a (P := Tryd.prog) (w := w1.drewN j) keyP Tryd.underlying68 (.int .u64 0) (zero66 _) A2 (fn, fv)
      rw [h2, idv_getD] at this
      exact this
    have H1 := Lib.hid h1; clear h1
    have H2 := Lib.hid h2; clear h2
    have k2 : ∀ n, Kept [] w (w1.drewN n) := fun n => k1.drewN n
    by_cases e1 : i1 = 0
    · have b1 : ((i1 : Int) != 0) = false := by simp; omega
      go_quiet (fail)
      go_wp2_with fail
      go_ret2
      exact ⟨by simp [searchRes], k2 _⟩
    · have b1 : ((i1 : Int) != 0) = true := by simp; omega
      go_quiet (fail)
      go_wp2_with (go_at_call 58; refine (hid i1 (.inl rfl) e1 _ (k2 _)).mono ?_; rintro e w' ⟨rfl, rfl⟩)
      go_ret2
      exact ⟨by simp [searchRes,  e1], k2 _⟩
end Go.Proofs.YtoceghdnipjkfaaDoor
