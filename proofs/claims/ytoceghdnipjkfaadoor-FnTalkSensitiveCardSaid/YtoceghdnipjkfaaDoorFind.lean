/-
  searchTable, shouldIndex, at: what the encoder and the decoder find in the two tables.
-/
import Derived.Test.YtoceghdnipjkfaaDoorStatic
import Derived.Test.YtoceghdnipjkfaaDoorLists
namespace Go.Proofs.YtoceghdnipjkfaaDoor
open Go.RowKit
attribute [local irreducible] st

theorem StatRep.kept {w w' : World} {b : Nat} (h : StatRep w b) (hk : Kept [] w w') : StatRep w' b := by
  obtain ⟨m1, m2, g, al1, al2, B1, A1, A2, L1, L2, G⟩ := h
  exact ⟨m1, m2, g, al1, al2, B1.kept hk (by simp), A1.kept hk (by simp), A2.kept hk (by simp), L1, L2, G.kept hk (by simp)⟩
theorem st_len : st.length = 61 := by unfold st; rw [List.length_map, stP_len]

def searchSt (f : Fld) : Nat × Bool := searchRes f (lastId (hasName f.name) st 1) (lastId (hasPair (f.name, f.value)) st 1) (fun i => i)
theorem search_stat (b : Nat) (f : Fld) (w : World) (h : StatRep w b) :
    Calls Tryd.prog 46 #[.pointer (some ⟨b, 0, none⟩), .agg #[.string f.name, .string f.value, .bool f.sens]] w fun e w' => e = .returned (.tuple #[.int .u64 (searchSt f).1, .bool (searchSt f).2]) ∧ Kept [] w w' := by
  obtain ⟨m1, m2, g, al1, al2, B, A1, A2, L1, L2, G⟩ := h
  refine search_gen b m1 m2 f _ _ (fun i => i) w (B.cell 3 rfl) (B.cell 4 rfl) A1 A2 (L1 _) (L2 _) ?_
  intro i hi h0 w' hk
  have B := B.kept hk (by simp)
  have hb : 0 < i ∧ i < 100000 := by
    rcases hi with rfl | rfl
    · rcases lastId_le (hasName f.name) st 1 with h | h
      · omega
      · rw [st_len] at h; omega
    · rcases lastId_le (hasPair (f.name, f.value)) st 1 with h | h
      · omega
      · rw [st_len] at h; omega
  exact id_stat b i w' (B.cell 0 rfl) (B.cell 2 rfl) hb.1 hb.2
theorem searchSt_le (f : Fld) : (searchSt f).1 ≤ 61 := by
  unfold searchSt searchRes
  have h1 := lastId_le (hasName f.name) st 1
  have h2 := lastId_le (hasPair (f.name, f.value)) st 1
  rw [st_len] at h1 h2
  split
  · simp; omega
  · split
    · simp; omega
    · simp
theorem searchDyn_le (f : Fld) (T : Tab) : (searchDyn f T).1 ≤ T.ents.length := by
  unfold searchDyn searchRes
  have h1 := lastId_le (hasName f.name) T.ents (T.ev + 1)
  have h2 := lastId_le (hasPair (f.name, f.value)) T.ents (T.ev + 1)
  split
  · simp; omega
  · split
    · simp; omega
    · simp
theorem searchSt_hit {f : Fld} (h : (searchSt f).2 = true) : (searchSt f).1 ≠ 0 := by
  unfold searchSt searchRes at *
  split at h
  · rename_i h'; rw [if_pos h']; exact h'.2
  · split at h <;> cases h
theorem searchDyn_hit {f : Fld} {T : Tab} (h : (searchDyn f T).2 = true) : (searchDyn f T).1 ≠ 0 := by
  have h2 := lastId_le (hasPair (f.name, f.value)) T.ents (T.ev + 1)
  unfold searchDyn searchRes at *
  split at h
  · rename_i h'; rw [if_pos h']; have := h'.2; simp; omega
  · split at h <;> cases h
theorem len_stat (b : Nat) (w : World) (h : StatRep w b) : Calls Tryd.prog 47 #[.pointer (some ⟨b, 0, none⟩)] w fun e w' => e = .returned (.int .i64 61) ∧ w = w' := by
  obtain ⟨m1, m2, g, al1, al2, B, _⟩ := h
  exact len_any b 61 61 0 (some ⟨g, 0, none⟩) w (B.cell 1 rfl)

/-- searchTable -/
def searchAll (f : Fld) (T : Tab) : Nat × Bool :=
  if (searchSt f).2 = true then ((searchSt f).1, true)
  else if (searchDyn f T).2 = true ∨ ((searchSt f).1 = 0 ∧ (searchDyn f T).1 ≠ 0) then ((searchDyn f T).1 + 61, (searchDyn f T).2)
  else ((searchSt f).1, false)

set_option maxRecDepth 100000 in
set_option maxHeartbeats 2000000 in
theorem search_any (b : Nat) (T : Tab) (v : Value) (m1 m2 : Nat) (rest : List Value) (ty : TypeId) (f : Fld) (w : World) (h : TabRep w b T v m1 m2 rest ty) (hT : T.ents.length + T.ev < 4294967296) :
    Calls Tryd.prog 29 #[.pointer (some ⟨b, 0, none⟩), .agg #[.string f.name, .string f.value, .bool f.sens]] w fun e w' => e = .returned (.tuple #[.int .u64 (searchAll f T).1, .bool (searchAll f T).2]) ∧ Kept [] w w' := by
  have hle := searchDyn_le f T
  have hle2 := searchSt_le f
  go_enter Tryd.func29, Tryd.ntmps29
  go_wp2_with fail
  generalize hw1 : w.alloc _ = w1
  obtain ⟨k1, X1, hx1⟩ := box_cells (l := fc f) hw1
  have h1 := h.kept k1 (by simp)
  generalize hxe : w.heap.size = xb at X1 hx1 ⊢
  have HW := Lib.hid hw1; clear hw1
  have HX := Lib.hid hxe; clear hxe
  have x2 := X1.cell 2 rfl
  have x0 := X1.cell 0 rfl
  have x1 := X1.cell 1 rfl
  obtain ⟨fs, hfs⟩ : ∃ fs, searchSt f = fs := ⟨_, rfl⟩
  obtain ⟨fd, hfd⟩ : ∃ fd, searchDyn f T = fd := ⟨_, rfl⟩
  obtain ⟨si, sm⟩ := fs
  obtain ⟨di, dm⟩ := fd
  have hb := h.blk.lt
  go_cut [0, 3, 4, 5] (fun s0 s3 s4 s5 wx => s0 = .pointer (some ⟨b, 0, none⟩) ∧ s3 = .pointer (some ⟨xb, 0, none⟩) ∧ s4 = .int .u64 si ∧ s5 = .bool sm ∧ Kept [] w1 wx)
  case first =>
    go_region_with (first
      | (go_at_call 45; refine (static_any _).mono ?_; rintro e w2 ⟨sb, rfl, hsb, S2, K2⟩; have y0 := K2.cell x0 (by simp); have y1 := K2.cell x1 (by simp); have y2 := K2.cell x2 (by simp))
      | (go_at_call 46; refine (search_stat _ f _ (by first | exact S2 | exact S2.kept ((Kept.refl [] _).drew))).mono ?_; rw [hfs]; rintro e w3 ⟨rfl, K3⟩))
    all_goals
      go_wp2_with fail
      go_meet
      case rel => exact ⟨rfl, rfl, rfl, rfl, (((Kept.refl [] w1).drew).trans K2).trans K3⟩
  case rest =>
    obtain ⟨rfl, rfl, rfl, rfl, K1⟩ := hcut
    have X2 := X1.kept K1 (by simp)
    have h2 := h1.kept K1 (by simp)
    have x0 := X2.cell 0 rfl
    have x1 := X2.cell 1 rfl
    have x2 := X2.cell 2 rfl
    have kw := k1.trans K1
    have hs1 := @searchSt_hit f
    have hs2 := @searchDyn_hit f T
    rw [hfs] at hs1 hle2
    rw [hfd] at hs2 hle
    simp only at hs1 hs2 hle hle2
    cases sm
    · go_wp2_with fail
      go_region_with ((go_at_call 46; refine (search_dyn b T v m1 m2 rest ty f _ (by exact h2.kept ((Kept.refl [] _).drew) (by simp)) hT).mono ?_; rw [hfd]; rintro e w3 ⟨rfl, K3⟩))
      have kw3 := (kw.drew).trans K3
      have HF := Lib.hid hfs; clear hfs
      have HFD := Lib.hid hfd; clear hfd
      by_cases e1 : dm = true ∨ (si = 0 ∧ di ≠ 0)
      · have hres : searchAll f T = (di + 61, dm) := by simp only [searchAll, HF.out, HFD.out]; rw [if_neg (by simp), if_pos e1]
        have hdi : di ≠ 0 := by rcases e1 with e | e; exact hs2 e; exact e.2
        cases dm
        · have e2 : si = 0 := by rcases e1 with e | e; cases e; exact e.1
          subst e2
          have b1 : ((di : Int) != 0) = true := by simp; omega
          go_wp2_with (first | (go_at_call 45; refine (static_any _).mono ?_; rintro e w4 ⟨sb, rfl, hsb, S4, K4⟩) | (go_at_call 47; refine (len_stat _ _ S4).mono ?_; rintro e w5 ⟨rfl, rfl⟩))
          go_ret2
          try rw [hres]
          refine ⟨?_, kw3.trans K4⟩
          simp
        · go_wp2_with (first | (go_at_call 45; refine (static_any _).mono ?_; rintro e w4 ⟨sb, rfl, hsb, S4, K4⟩) | (go_at_call 47; refine (len_stat _ _ S4).mono ?_; rintro e w5 ⟨rfl, rfl⟩))
          go_ret2
          try rw [hres]
          refine ⟨?_, kw3.trans K4⟩
          simp
      · have hres : searchAll f T = (si, false) := by simp only [searchAll, HF.out, HFD.out]; rw [if_neg (by simp), if_neg e1]
        have e3 : dm = false := by cases dm; rfl; exact absurd (.inl rfl) e1
        subst e3
        by_cases e2 : si = 0
        · subst e2
          have e4 : di = 0 := by apply Decidable.byContradiction; intro h; exact e1 (.inr ⟨rfl, h⟩)
          subst e4
          go_wp2_with fail
          go_ret2
          try rw [hres]
          exact ⟨by simp, kw3⟩
        · have b1 : ((si : Int) == 0) = false := by simp; omega
          go_wp2_with fail
          go_ret2
          try rw [hres]
          exact ⟨by simp, kw3⟩
    · go_wp2_with fail
      go_ret2
      refine ⟨?_, kw⟩
      simp [searchAll, hfs]

/-- shouldIndex -/
def should (f : Fld) (mx : Nat) : Bool := !f.sens && decide (fsz f ≤ mx)
set_option maxRecDepth 100000 in
set_option maxHeartbeats 2000000 in
theorem should_any (b mx : Nat) (f : Fld) (w : World) (c6 : w.cell? ⟨b, 6, none⟩ = some (.int .u32 mx)) (hf : f.name.size + f.value.size ≤ 4000000) :
    Calls Tryd.prog 31 #[.pointer (some ⟨b, 0, none⟩), .agg #[.string f.name, .string f.value, .bool f.sens]] w fun e w' => e = .returned (.bool (should f mx)) ∧ Kept [] w w' := by
  have hb : b < w.heap.size := World.block_lt_of_cell? w _ c6
  have hsz : fsz f = f.name.size + f.value.size + 32 := rfl
  obtain ⟨fn, fv, fs⟩ := f
  cases fs
  · go_enter Tryd.func31, Tryd.ntmps31
    go_wp2_with fail
    generalize hw1 : w.alloc _ = w1
    obtain ⟨k1, X1, hx1⟩ := box_cells (l := fc ⟨fn, fv, false⟩) hw1
    have c6 := k1.cell c6 (by simp)
    generalize hxe : w.heap.size = xb at X1 hx1 ⊢
    have HW := Lib.hid hw1; clear hw1
    have HX := Lib.hid hxe; clear hxe
    have x2 := X1.cell 2 rfl
    have x0 := X1.cell 0 rfl
    have x1 := X1.cell 1 rfl
    have HSZ := Lib.hid hsz; clear hsz
    by_cases hle : fn.size + fv.size + 32 ≤ mx
    · have b1 : decide ((fn.size : Int) + (fv.size : Int) + 32 ≤ (mx : Int)) = true := by simp; omega
      go_region_with ((go_at_call 48; refine (size_any _ _ _ _ (by exact hf)).mono ?_; rintro e w2 ⟨rfl, K2⟩; have c6' := (K2.cell c6 (by simp))))
      all_goals
        go_wp2_with fail
        go_ret
        refine ⟨by rw [show should ⟨fn, fv, false⟩ mx = _ from by simp only [should, fsz, hle]; rfl]; rfl, ?_⟩
        first | exact (k1.drew).trans K2
    · have b1 : decide ((fn.size : Int) + (fv.size : Int) + 32 ≤ (mx : Int)) = false := by simp; omega
      go_region_with ((go_at_call 48; refine (size_any _ _ _ _ (by exact hf)).mono ?_; rintro e w2 ⟨rfl, K2⟩; have c6' := (K2.cell c6 (by simp))))
      all_goals
        go_wp2_with fail
        go_ret
        refine ⟨by rw [show should ⟨fn, fv, false⟩ mx = _ from by simp only [should, fsz, hle]; rfl]; rfl, ?_⟩
        first | exact (k1.drew).trans K2
  · go_enter Tryd.func31, Tryd.ntmps31
    go_wp2_with fail
    generalize hw1 : w.alloc _ = w1
    obtain ⟨k1, X1, hx1⟩ := box_cells (l := fc ⟨fn, fv, true⟩) hw1
    have x2 := X1.cell 2 rfl
    go_quiet (fail)
    go_wp2_with fail
    go_ret
    exact ⟨rfl, k1.drewN _⟩
end Go.Proofs.YtoceghdnipjkfaaDoor
