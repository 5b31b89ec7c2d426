/-
  The decoder's look into the two tables: at.
-/
import Derived.Test.YtoceghdnipjkfaaDoorFind
import Derived.Laws.ResultCell
import Derived.Laws.Rows
namespace Go.Proofs.YtoceghdnipjkfaaDoor
open Go.RowKit
attribute [local irreducible] st

/-- the field with number i, static entries first, then the newest first -/
def fieldAt (T : Tab) (i : Nat) : Option Fld := if i ≤ 61 then st[i - 1]? else T.ents[T.ents.length - (i - 61)]?

set_option maxRecDepth 100000 in
set_option maxHeartbeats 1000000 in
theorem max_any (b : Nat) (T : Tab) (v : Value) (m1 m2 : Nat) (rest : List Value) (ty : TypeId) (w : World) (h : TabRep w b T v m1 m2 rest ty) (hT : T.ents.length < 4294967296) :
    Calls Tryd.prog 71 #[.pointer (some ⟨b, 0, none⟩)] w fun e w' => e = .returned (.int .i64 (T.ents.length + 61 : Nat)) ∧ Kept [] w w' := by
  obtain ⟨p, cap, hv, _⟩ := ownsRow_slice h.row
  have c1 := h.blk.cell 1 rfl
  rw [hv] at c1
  go_enter Tryd.func71, Tryd.ntmps71
  go_wp2_with (first
    | (go_at_call 45; refine (static_any _).mono ?_; rintro e w2 ⟨sb, rfl, hsb, S2, K2⟩)
    | (go_at_call 47; refine (len_any b _ _ 0 _ _ c1).mono ?_; rintro e w' ⟨rfl, rfl⟩)
    | (go_at_call 47; refine (len_stat _ _ S2).mono ?_; rintro e w' ⟨rfl, rfl⟩))
  go_ret
  exact ⟨ret_int (by omega), K2⟩

theorem at_ret {R : Ending → World → Prop} {a : Act} {w : World} {xb : Nat} {n v : ByteArray} {s : Bool} (B : Blk w xb [.string n, .string v, .bool s] 50) (h4 : a.tmps.getD 4 undef = .pointer (some ⟨xb, 0, none⟩)) (h5 : a.tmps.getD 5 undef = .bool true) (hd : a.defers = [])
    (hR : R (.returned (.tuple #[.agg #[.string n, .string v, .bool s], .bool true])) w) : bodyPost Tryd.prog Tryd.f63 R .ret a w := by
  refine bodyPost_ret (v := .tuple #[.agg #[.string n, .string v, .bool s], .bool true]) ?_ hd hR
  rw [results_cell_tmp (p := 4) (u := 5) (ty := 50) rfl, h4, h5]
  have hl := run_loadVar_row (P := Tryd.prog) w xb 50 50 #[.string n, .string v, .bool s] (0, 0) _ (show w.heap[xb]? = some (.cells #[.string n, .string v, .bool s] 50 (0, 0)) from B) Tryd.underlying50 rfl (by kernel_rfl)
  show (Result.ok (⟨xb, 0, none⟩ : Addr) w).andThen _ = _
  simp only [Result.andThen_ok, hl]
set_option maxRecDepth 100000 in
set_option maxHeartbeats 2000000 in
theorem at_any (b : Nat) (T : Tab) (v : Value) (m1 m2 : Nat) (rest : List Value) (ty : TypeId) (i : Nat) (f : Fld) (w : World) (h : TabRep w b T v m1 m2 rest ty) (hT : T.ents.length < 4294967296) (h0 : 1 ≤ i) (h1 : i ≤ 61 + T.ents.length) (hf : fieldAt T i = some f) :
    Calls Tryd.prog 63 #[.pointer (some ⟨b, 0, none⟩), .int .u64 i] w fun e w' => e = .returned (.tuple #[.agg #[.string f.name, .string f.value, .bool f.sens], .bool true]) ∧ Kept [] w w' := by
  have b0 : ((i : Int) == 0) = false := by simp; omega
  by_cases hi : i ≤ 61
  · have b1 : decide ((i : Int) ≤ 61) = true := by simp; omega
    have hfs : st[i - 1]? = some f := by unfold fieldAt at hf; rw [if_pos hi] at hf; exact hf
    have HF := Lib.hid hfs; clear hfs hf
    go_enter Tryd.func63, Tryd.ntmps63
    go_upto_region 1 with (fail)
    generalize hw1 : w.alloc _ = w1
    obtain ⟨k1, X1, hx1⟩ := box_cells (l := [.string ⟨#[]⟩, .string ⟨#[]⟩, .bool false]) hw1
    generalize hxe : w.heap.size = xb at X1 hx1 ⊢
    have HW := Lib.hid hw1; clear hw1
    have HX := Lib.hid hxe; clear hxe
    go_upto_region 3 with (first
      | (go_at_call 45; refine (static_any _).mono ?_; rintro e w2 ⟨sb, rfl, hsb, S2, K2⟩)
      | (go_at_call 47; refine (len_stat _ _ S2).mono ?_; rintro e w' ⟨rfl, rfl⟩))
    obtain ⟨j, hj⟩ : ∃ j, i - 1 = j := ⟨_, rfl⟩
    have hj2 : (i : Int) - 1 = (j : Int) := by omega
    have hwr : IntKind.u64.wrap ((i : Int) - 1) = (j : Int) := by rw [hj2]; exact IntWalk.u64_in _ (by omega)
    have j1 : (j : Int) < 61 := by omega
    rw [hj] at HF
    have fin := flat_get st j f HF.out
    go_wp2_with ((go_at_call 45; refine (static_any _).mono ?_; rintro e w3 ⟨sb3, rfl, hsb3, S3, K3⟩; obtain ⟨n1, n2, gg, l1, l2, B3, _, _, _, _, G3⟩ := S3; have c1 := B3.cell 1 rfl; have g0 := G3.cell _ fin.1; have g1 := G3.cell _ fin.2.1; have g2 := G3.cell _ fin.2.2; have X3 := (X1.kept K2 (by simp)).kept K3 (by simp); have y0 := X3.cell 0 rfl; have y1 := X3.cell 1 rfl; have y2 := X3.cell 2 rfl; have f0 := X3.frozen 0; have f1 := X3.frozen 1; have f2 := X3.frozen 2))
    refine at_ret (((X3.set 0 (.string f.name)).set 1 (.string f.value)).set 2 (.bool f.sens)) rfl rfl rfl ?_
    exact ⟨rfl, ((((k1.trans K2).trans K3).step ((Kept.refl [xb] w3).setCell (by simp) _) (by intro q hq; right; simp at hq; rw [hq]; exact Nat.le_of_eq HX.out)).step ((Kept.refl [xb] _).setCell (by simp) _) (by intro q hq; right; simp at hq; rw [hq]; exact Nat.le_of_eq HX.out)).step ((Kept.refl [xb] _).setCell (by simp) _) (by intro q hq; right; simp at hq; rw [hq]; exact Nat.le_of_eq HX.out)⟩
  · have b1 : decide ((i : Int) ≤ 61) = false := by simp; omega
    have hfs : T.ents[T.ents.length - (i - 61)]? = some f := by unfold fieldAt at hf; rw [if_neg hi] at hf; exact hf
    obtain ⟨p, cap, hv, hcap, hm⟩ := ownsRow_slice h.row
    obtain ⟨j, hj⟩ : ∃ j, T.ents.length - (i - 61) = j := ⟨_, rfl⟩
    rw [hj] at hfs
    obtain ⟨g, rfl⟩ : ∃ g, p = some ⟨g, 0, none⟩ := by
      rcases h.row.2 with ⟨h0', h1'⟩ | ⟨g, cap', cur, h0', _⟩
      · omega
      · rw [hv] at h0'; simp at h0'; exact ⟨g, h0'.1⟩
    have hrow := h.row
    rw [hv] at hrow
    obtain ⟨d0, d1, d2⟩ := fld_cells hrow j f hfs
    have HF := Lib.hid hfs; clear hfs hf
    have HM := Lib.hid hm; clear hm
    have B0 := h.blk
    rw [hv] at B0
    have b2 : decide (((T.ents.length : Int) + 61) < (i : Int)) = false := by simp; omega
    have b3 : decide (((T.ents.length + 61 : Nat) : Int) < (i : Int)) = false := by simp; omega
    have hgl : g < w.heap.size := World.block_lt_of_cell? w _ d0
    have hbl := B0.lt
    go_enter Tryd.func63, Tryd.ntmps63
    go_upto_region 1 with (fail)
    generalize hw1 : w.alloc _ = w1
    obtain ⟨k1, X1, hx1⟩ := box_cells (l := [.string ⟨#[]⟩, .string ⟨#[]⟩, .bool false]) hw1
    have hT1 := h.kept k1 (by simp)
    generalize hxe : w.heap.size = xb at X1 hx1 hgl hbl ⊢
    have HW := Lib.hid hw1; clear hw1
    have HX := Lib.hid hxe; clear hxe
    go_upto_region 5 with (first
      | (go_at_call 45; refine (static_any _).mono ?_; rintro e w2 ⟨sb, rfl, hsb, S2, K2⟩)
      | (go_at_call 47; refine (len_stat _ _ S2).mono ?_; rintro e w' ⟨rfl, rfl⟩)
      | (go_at_call 71; refine (max_any b T v m1 m2 rest ty _ (hT1.kept K2 (by simp)) hT).mono ?_; rintro e w3 ⟨rfl, K3⟩))
    have k3 := (k1.trans K2).trans K3
    have B3 := B0.kept k3 (by simp)
    have X3 := (X1.kept K2 (by simp)).kept K3 (by simp)
    have e0 := k3.cell d0 (by simp)
    have e1 := k3.cell d1 (by simp)
    have e2 := k3.cell d2 (by simp)
    have c0 := B3.cell 0 rfl
    have c1 := B3.cell 1 rfl
    have c2 := B3.cell 2 rfl
    have c3 := B3.cell 3 rfl
    have c4 := B3.cell 4 rfl
    have hws := k3.size
    go_upto_region 6 with (fail)
    generalize hw4 : w3.alloc _ = w4
    obtain ⟨k4, Y4, hy4⟩ := box_cells (l := [.bool false, .slice (some ⟨g, 0, none⟩) T.ents.length cap, .int .u64 T.ev, .map (some m1), .map (some m2)]) hw4
    have X4 := X3.kept k4 (by simp)
    have a0 := k4.cell e0 (by simp)
    have a1 := k4.cell e1 (by simp)
    have a2 := k4.cell e2 (by simp)
    clear c0 c1 c2 c3 c4 e0 e1 e2 d0 d1 d2
    generalize hye : w3.heap.size = yb at Y4 hy4 ⊢
    have HW4 := Lib.hid hw4; clear hw4
    have HY := Lib.hid hye; clear hye
    have y1 := Y4.cell 1 rfl
    have x0 := X4.cell 0 rfl
    have x1 := X4.cell 1 rfl
    have x2 := X4.cell 2 rfl
    have f0 := X4.frozen 0
    have f1 := X4.frozen 1
    have f2 := X4.frozen 2
    have s0 : IntKind.i64.wrap (i : Int) = (i : Int) := IntWalk.i64_in _ (by omega)
    have s1 : IntKind.i64.wrap ((i : Int) - 61) = (i : Int) - 61 := IntWalk.i64_in _ (by omega)
    have s2 : IntKind.i64.wrap ((T.ents.length : Int) - ((i : Int) - 61)) = (j : Int) := by
      rw [show (T.ents.length : Int) - ((i : Int) - 61) = (j : Int) from by omega]; exact IntWalk.i64_in _ (by omega)
    have s3 : (j : Int) < (T.ents.length : Int) := by omega
    go_cut [4, 5] (fun s4 s5 wx => s4 = .pointer (some ⟨xb, 0, none⟩) ∧ s5 = .bool true ∧ Blk wx xb [.string f.name, .string f.value, .bool f.sens] 50 ∧ Kept [xb] w4 wx)
    case first =>
      go_region_with (first
        | (go_at_call 45; refine (static_any _).mono ?_; rintro e w5 ⟨sb5, rfl, hsb5, S5, K5⟩; have X5 := (X4.drew).kept K5 (by simp); have z1 := K5.cell y1 (by simp); have z2 := K5.cell a0 (by simp); have z3 := K5.cell a1 (by simp); have z4 := K5.cell a2 (by simp); have z5 := X5.cell 0 rfl; have z6 := X5.cell 1 rfl; have z7 := X5.cell 2 rfl; have z8 := X5.frozen 0; have z9 := X5.frozen 1; have z10 := X5.frozen 2)
        | (go_at_call 47; refine (len_any yb _ _ 0 _ _ (by first | assumption | exact y1)).mono ?_; rintro e w' ⟨rfl, rfl⟩)
        | (go_at_call 47; refine (len_stat _ _ S5).mono ?_; rintro e w' ⟨rfl, rfl⟩))
      all_goals
        go_wp2_with fail
        go_meet
        case rel => exact ⟨rfl, rfl, ((X5.set 0 (.string f.name)).set 1 (.string f.value)).set 2 (.bool f.sens), ((((((Kept.refl [xb] w4).drew).step K5 (by simp)).setCell (by simp) _).setCell (by simp) _).setCell (by simp) _)⟩
    case rest =>
      obtain ⟨rfl, rfl, X6, K6⟩ := hcut
      go_wp2_with fail
      refine at_ret X6 rfl rfl rfl ⟨rfl, ?_⟩
      exact (k3.trans k4).step K6 (by intro q hq; right; simp at hq; rw [hq]; exact Nat.le_of_eq HX.out)
end Go.Proofs.YtoceghdnipjkfaaDoor
