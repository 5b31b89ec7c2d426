/-
  parseHeaderFieldRepr goes by the first byte.
-/
import Derived.Test.YtoceghdnipjkfaaDoorBase
namespace Go.Proofs.YtoceghdnipjkfaaDoor
open Go.RowKit

theorem first_bits : ((List.range 256).all fun y => decide ((bits .and .u8 (y : Int) 128 != 0) = decide (128 ≤ y)) && decide ((bits .and .u8 (y : Int) 192 == 64) = decide (64 ≤ y ∧ y < 128)) && decide ((bits .and .u8 (y : Int) 240 == 0) = decide (y < 16)) && decide ((bits .and .u8 (y : Int) 240 == 16) = decide (16 ≤ y ∧ y < 32)) && decide ((bits .and .u8 (y : Int) 224 == 32) = decide (32 ≤ y ∧ y < 64))) = true := by decide +kernel
theorem first_at {y : Nat} (h : y < 256) : (bits .and .u8 (y : Int) 128 != 0) = decide (128 ≤ y) ∧ (bits .and .u8 (y : Int) 192 == 64) = decide (64 ≤ y ∧ y < 128) ∧ (bits .and .u8 (y : Int) 240 == 0) = decide (y < 16) ∧ (bits .and .u8 (y : Int) 240 == 16) = decide (16 ≤ y ∧ y < 32) ∧ (bits .and .u8 (y : Int) 224 == 32) = decide (32 ≤ y ∧ y < 64) := by
  have := List.all_eq_true.1 first_bits y (List.mem_range.2 h)
  simp only [Bool.and_eq_true, decide_eq_true_eq] at this
  exact ⟨this.1.1.1.1, this.1.1.1.2, this.1.1.2, this.1.2, this.2⟩


set_option maxRecDepth 100000 in
set_option maxHeartbeats 1000000 in
theorem disp_idx (d g off N cap fb : Nat) (w : World) (R : Ending → World → Prop) (hR : ∀ e w', R e w' → e = .returned .nilIface) (c11 : w.cell? ⟨d, 11, none⟩ = some (.slice (some ⟨g, off, none⟩) N cap)) (c0 : w.cell? ⟨g, off, none⟩ = some (.int .u8 (fb : Nat))) (hN : 0 < N) (hfb : fb < 256)
    (h : 128 ≤ fb) (K : Calls Tryd.prog 54 #[.pointer (some ⟨d, 0, none⟩)] w R) : Calls Tryd.prog 39 #[.pointer (some ⟨d, 0, none⟩)] w R := by
  obtain ⟨h1, h2, h3, h4, h5⟩ := first_at hfb
  rw [show decide (128 ≤ fb) = true from by simp; omega] at h1
  clear h2 h3 h4 h5
  go_enter Tryd.func39, Tryd.ntmps39
  go_wp2_with ((go_at_call 54; refine K.mono ?_; intro e w' hr; have he := hR e w' hr; subst he))
  exact hr
set_option maxRecDepth 100000 in
set_option maxHeartbeats 1000000 in
theorem disp_inc (d g off N cap fb : Nat) (w : World) (R : Ending → World → Prop) (hR : ∀ e w', R e w' → e = .returned .nilIface) (c11 : w.cell? ⟨d, 11, none⟩ = some (.slice (some ⟨g, off, none⟩) N cap)) (c0 : w.cell? ⟨g, off, none⟩ = some (.int .u8 (fb : Nat))) (hN : 0 < N) (hfb : fb < 256)
    (h : 64 ≤ fb ∧ fb < 128) (K : Calls Tryd.prog 55 #[.pointer (some ⟨d, 0, none⟩), .int .u8 6, .int .i64 0] w R) : Calls Tryd.prog 39 #[.pointer (some ⟨d, 0, none⟩)] w R := by
  obtain ⟨h1, h2, h3, h4, h5⟩ := first_at hfb
  rw [show decide (128 ≤ fb) = false from by simp; omega] at h1
  rw [show decide (64 ≤ fb ∧ fb < 128) = true from by simp; omega] at h2
  clear h3 h4 h5
  go_enter Tryd.func39, Tryd.ntmps39
  go_wp2_with ((go_at_call 55; refine K.mono ?_; intro e w' hr; have he := hR e w' hr; subst he))
  exact hr
set_option maxRecDepth 100000 in
set_option maxHeartbeats 1000000 in
theorem disp_not (d g off N cap fb : Nat) (w : World) (R : Ending → World → Prop) (hR : ∀ e w', R e w' → e = .returned .nilIface) (c11 : w.cell? ⟨d, 11, none⟩ = some (.slice (some ⟨g, off, none⟩) N cap)) (c0 : w.cell? ⟨g, off, none⟩ = some (.int .u8 (fb : Nat))) (hN : 0 < N) (hfb : fb < 256)
    (h : fb < 16) (K : Calls Tryd.prog 55 #[.pointer (some ⟨d, 0, none⟩), .int .u8 4, .int .i64 1] w R) : Calls Tryd.prog 39 #[.pointer (some ⟨d, 0, none⟩)] w R := by
  obtain ⟨h1, h2, h3, h4, h5⟩ := first_at hfb
  rw [show decide (128 ≤ fb) = false from by simp; omega] at h1
  rw [show decide (64 ≤ fb ∧ fb < 128) = false from by simp; omega] at h2
  rw [show decide (fb < 16) = true from by simp; omega] at h3
  clear h4 h5
  go_enter Tryd.func39, Tryd.ntmps39
  go_wp2_with ((go_at_call 55; refine K.mono ?_; intro e w' hr; have he := hR e w' hr; subst he))
  exact hr
set_option maxRecDepth 100000 in
set_option maxHeartbeats 1000000 in
theorem disp_never (d g off N cap fb : Nat) (w : World) (R : Ending → World → Prop) (hR : ∀ e w', R e w' → e = .returned .nilIface) (c11 : w.cell? ⟨d, 11, none⟩ = some (.slice (some ⟨g, off, none⟩) N cap)) (c0 : w.cell? ⟨g, off, none⟩ = some (.int .u8 (fb : Nat))) (hN : 0 < N) (hfb : fb < 256)
    (h : 16 ≤ fb ∧ fb < 32) (K : Calls Tryd.prog 55 #[.pointer (some ⟨d, 0, none⟩), .int .u8 4, .int .i64 2] w R) : Calls Tryd.prog 39 #[.pointer (some ⟨d, 0, none⟩)] w R := by
  obtain ⟨h1, h2, h3, h4, h5⟩ := first_at hfb
  rw [show decide (128 ≤ fb) = false from by simp; omega] at h1
  rw [show decide (64 ≤ fb ∧ fb < 128) = false from by simp; omega] at h2
  rw [show decide (fb < 16) = false from by simp; omega] at h3
  rw [show decide (16 ≤ fb ∧ fb < 32) = true from by simp; omega] at h4
  clear h5
  go_enter Tryd.func39, Tryd.ntmps39
  go_wp2_with ((go_at_call 55; refine K.mono ?_; intro e w' hr; have he := hR e w' hr; subst he))
  exact hr
set_option maxRecDepth 100000 in
set_option maxHeartbeats 1000000 in
theorem disp_size (d g off N cap fb : Nat) (w : World) (R : Ending → World → Prop) (hR : ∀ e w', R e w' → e = .returned .nilIface) (c11 : w.cell? ⟨d, 11, none⟩ = some (.slice (some ⟨g, off, none⟩) N cap)) (c0 : w.cell? ⟨g, off, none⟩ = some (.int .u8 (fb : Nat))) (hN : 0 < N) (hfb : fb < 256)
    (h : 32 ≤ fb ∧ fb < 64) (K : Calls Tryd.prog 56 #[.pointer (some ⟨d, 0, none⟩)] w R) : Calls Tryd.prog 39 #[.pointer (some ⟨d, 0, none⟩)] w R := by
  obtain ⟨h1, h2, h3, h4, h5⟩ := first_at hfb
  rw [show decide (128 ≤ fb) = false from by simp; omega] at h1
  rw [show decide (64 ≤ fb ∧ fb < 128) = false from by simp; omega] at h2
  rw [show decide (fb < 16) = false from by simp; omega] at h3
  rw [show decide (16 ≤ fb ∧ fb < 32) = false from by simp; omega] at h4
  rw [show decide (32 ≤ fb ∧ fb < 64) = true from by simp; omega] at h5
  go_enter Tryd.func39, Tryd.ntmps39
  go_wp2_with ((go_at_call 56; refine K.mono ?_; intro e w' hr; have he := hR e w' hr; subst he))
  exact hr
end Go.Proofs.YtoceghdnipjkfaaDoor
