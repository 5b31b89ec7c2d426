/-
  FnTalkBound: each side's table is as great as it says, and within its bound.
-/
import Derived.Test.YtoceghdnipjkfaaDoorTables
namespace Go.Proofs.YtoceghdnipjkfaaDoor
open Go.RowKit
attribute [local irreducible] st

theorem tsz_reverse (l : List Fld) : tsz l.reverse = tsz l := by simp [tsz, List.map_reverse, List.sum_reverse]
theorem tsz_take {l : List Fld} {k : Nat} {f : Fld} (h : l[k]? = some f) : tsz (l.take (k + 1)) = tsz (l.take k) + (f.name.size + f.value.size + 32) := by
  simp [List.take_add_one, h, tsz, fsz]
theorem tsz_take_le (l : List Fld) (k : Nat) : tsz (l.take k) ≤ tsz l := by
  have h := tsz_append (l.take k) (l.drop k)
  rw [List.take_append_drop] at h
  omega
/-- the two states of an answer -/
structure TwoAt (w : World) (y : Nat) (R : List Fld) (z m : Nat) (v1 v2 : Value) : Prop where
  b : Blk w y [v1, .int .i64 (z : Nat), .int .i64 (m : Nat), v2, .int .i64 (z : Nat), .int .i64 (m : Nat)] 33
  f1 : FldsAt w v1 R
  f2 : FldsAt w v2 R
theorem TwoAt.get {w : World} {y : Nat} {R : List Fld} {z m : Nat} {v1 v2 : Value} (h : TwoAt w y R z m v1 v2) {j : Nat} (hj : j < 2) :
    ∃ v, FldsAt w v R ∧ w.cell? ⟨y, j * 3, none⟩ = some v ∧ w.cell? ⟨y, j * 3 + 1, none⟩ = some (.int .i64 (z : Nat)) ∧ w.cell? ⟨y, j * 3 + 2, none⟩ = some (.int .i64 (m : Nat)) := by
  rcases (show j = 0 ∨ j = 1 by omega) with rfl | rfl
  · exact ⟨v1, h.f1, h.b.cell 0 rfl, h.b.cell 1 rfl, h.b.cell 2 rfl⟩
  · exact ⟨v2, h.f2, h.b.cell 3 rfl, h.b.cell 4 rfl, h.b.cell 5 rfl⟩
def BiRel (w : World) (R : List Fld) (n a : Value) (wr : World) : Prop := ∃ k : Nat, k ≤ R.length ∧ n = .int .i64 (tsz (R.take k) : Nat) ∧ a = .int .i64 (k : Nat) ∧ Kept [] w wr
def BjRel (w : World) (a : Value) (wr : World) : Prop := ∃ k : Nat, k ≤ 2 ∧ a = .int .i64 (k : Nat) ∧ Kept [] w wr
set_option maxRecDepth 100000 in
set_option maxHeartbeats 4000000 in
theorem bound_any (v : Value) (ps : List PartD) (w : World) (hv : PartsAt w v ps) (hl : PsOk ps) (hg : Glob w) (he : ErrAt w) : Calls Tryd.prog 4 #[v] w (RetTrue w) := by
  have HV : Hid (∀ w', Kept [] w w' → PartsAt w' v ps) := fun w' k => hv.kept k
  have HL := Lib.hid hl; clear hl
  have HG := Lib.hid hg; clear hg
  have HE := Lib.hid he; clear he
  obtain ⟨p, c, rfl, hc⟩ := hv
  have HC := Lib.hid hc; clear hc
  go_enter Tryd.func4, Tryd.ntmps4
  go_wp2_with (first
    | (go_at_call 11; refine (fits1_any _ ps _ (HV.out _ (Kept.refl _ _)) HL.out).mono ?_; rintro e w1 ⟨b1, rfl, K1⟩)
    | (go_at_call 12; refine (few_any _ ps _ (HV.out _ K1) HL.out).mono ?_; rintro e w2 ⟨b2, rfl, K2, hall⟩; replace K2 := K1.trans K2; replace hall := Lib.hid hall)
    | (go_at_call 9; refine (talk_any _ ps _ (HV.out _ K2) (HG.out.kept K2 (by simp) (by simp)) (HE.out.kept K2 (by simp)) (hall.out (by simpa using ‹(!b2) = false›))).mono ?_; rintro e w3 ⟨v3, xs, rfl, K3, own3, S3⟩; obtain ⟨p3, c3, hv3, hA⟩ := saids_at own3 S3; rw [talk_len] at hv3; subst hv3; replace hA := Lib.hid hA; replace K3 := K2.trans K3; clear own3 S3))
  · go_ret
    exact ⟨rfl, K1⟩
  · go_ret
    exact ⟨rfl, K2⟩
  have hAll := Lib.hid (hall.out (by simpa using ‹(!b2) = false›))
  have hpl := hAll.out.len
  clear HL hall K1
  go_loopw [26] (RdRel w3 ps) (fun i _ => ps.length - (intOf i).toNat)
  case atStart => exact ⟨0, Nat.zero_le _, rfl, Kept.refl _ _⟩
  case round =>
    obtain ⟨k, hk, rfl, K⟩ := hrel
    by_cases hlt : k < ps.length
    · have hget : ps[k]? = some ps[k] := List.getElem?_eq_getElem hlt
      generalize ps[k] = q at hget
      obtain ⟨s, hs1, hs2, hs3, hs4, hs5, hs6⟩ := talk_at hAll.out hget
      obtain ⟨g, o, sbv, sfv, sev, sdv, hp1, A⟩ := hA.out k s hs1
      subst hp1
      have hsz := hs5.sz
      have hmx := hs5.mx
      replace A := A.kept K
      have fe := A.e
      have fd := A.d
      obtain ⟨bp, bcp, hbv⟩ := A.b
      obtain ⟨ap, acp, hav, _⟩ := A.f
      obtain ⟨gp, gcp, hgv, _⟩ := A.e
      obtain ⟨hp, hcp, hhv, _⟩ := A.d
      subst hbv; subst hav; subst hgv; subst hhv
      have c0 := A.c0
      have c1 := A.c1
      have c2 := A.c2
      have c3 := A.c3
      have c4 := A.c4
      have c5 := A.c5
      have c6 := A.c6
      have c7 := A.c7
      have c8 := A.c8
      clear A hs1 hs2 hs3 hs4 hs5
      rw [← tsz_reverse] at hsz
      rw [← tsz_reverse] at c4 c7
      have hR6 : s.tab.ents.reverse.length ≤ 4000000 := by rw [List.length_reverse]; exact hs6
      clear hs6
      generalize s.tab.ents.reverse = R at fe fd c3 c4 c6 c7 hsz hR6
      generalize s.mx = mx at c5 c8 hsz hmx
      have FE := Lib.hid fe; clear fe
      have FD := Lib.hid fd; clear fd
      have t1 : (0 : Int) ≤ (k : Int) := by omega
      have t2 : (k : Int) < (ps.length : Int) := by omega
      clear hget
      go_upto_region 11 with (fail)
      generalize hw4 : wr.alloc _ = w4
      obtain ⟨k4, Y4, hy4⟩ := box_cells (l := [.slice bp s.bytes.length bcp, .slice ap s.flds.length acp, .bool true, .slice gp R.length gcp, .int .i64 (tsz R : Nat), .int .i64 (mx : Nat), .slice hp R.length hcp, .int .i64 (tsz R : Nat), .int .i64 (mx : Nat)]) hw4
      generalize hxe : wr.heap.size = xb at Y4 hy4 ⊢
      have HW4 := Lib.hid hw4; clear hw4
      have HX := Lib.hid hxe; clear hxe
      clear c0 c1 c2 c3 c4 c5 c6 c7 c8
      have y3 := Y4.cell 3 rfl
      have y4 := Y4.cell 4 rfl
      have y5 := Y4.cell 5 rfl
      have y6 := Y4.cell 6 rfl
      have y7 := Y4.cell 7 rfl
      have y8 := Y4.cell 8 rfl
      go_upto_region 12 with (fail)
      generalize hw5 : w4.alloc _ = w5
      obtain ⟨k5, Z5, hz5⟩ := box_cells (l := [.slice gp R.length gcp, .int .i64 (tsz R : Nat), .int .i64 (mx : Nat), .slice hp R.length hcp, .int .i64 (tsz R : Nat), .int .i64 (mx : Nat)]) hw5
      generalize hye : w4.heap.size = yb at Z5 hz5 ⊢
      have HW5 := Lib.hid hw5; clear hw5
      have HY := Lib.hid hye; clear hye
      have TWO : Hid (TwoAt w5 yb R (tsz R) mx (.slice gp R.length gcp) (.slice hp R.length hcp)) := ⟨Z5, FE.out.kept (k4.trans k5), FD.out.kept (k4.trans k5)⟩
      clear y3 y4 y5 y6 y7 y8
      go_loopw [36] (BjRel w5) (fun i _ => 2 - (intOf i).toNat)
      case atStart => exact ⟨0, Nat.zero_le _, rfl, Kept.refl _ _⟩
      case round =>
        obtain ⟨j, hj, rfl, K6⟩ := hrel
        by_cases hjl : j < 2
        · obtain ⟨xv, fx, z0, z1, z2⟩ := TWO.out.get hjl
          obtain ⟨xp, xcp, hxv, hxc⟩ := id fx
          subst hxv
          have HX := Lib.hid hxc; clear hxc
          have FX := Lib.hid fx; clear fx
          replace z0 := K6.cell z0 (by simp)
          replace z1 := K6.cell z1 (by simp)
          replace z2 := K6.cell z2 (by simp)
          have t3 : (0 : Int) ≤ (j : Int) := by omega
          have t4 : (j : Int) < 2 := by omega
          go_upto_region 14 with (fail)
          generalize hw6 : wr.alloc _ = w6
          obtain ⟨k6, X6, hy6⟩ := box_cells (l := [.slice xp R.length xcp, .int .i64 (tsz R : Nat), .int .i64 (mx : Nat)]) hw6
          generalize hze : wr.heap.size = zb at X6 hy6 ⊢
          have HW6 := Lib.hid hw6; clear hw6
          have HZ := Lib.hid hze; clear hze
          clear z0 z1 z2
          have x0 := X6.cell 0 rfl
          go_upto_region 16 with (fail)
          clear x0
          go_loopw [8, 43] (BiRel w6 R) (fun _ i _ => R.length - (intOf i).toNat)
          case atStart => exact ⟨0, Nat.zero_le _, rfl, rfl, Kept.refl _ _⟩
          case round =>
            obtain ⟨i, hi, rfl, rfl, K7⟩ := hrel
            by_cases hil : i < R.length
            · have hget : R[i]? = some R[i] := List.getElem?_eq_getElem hil
              generalize R[i] = f at hget
              obtain ⟨fb, fo, hfp, r0, r1, r2⟩ := HX.out _ _ hget
              subst hfp
              replace r0 := ((K6.trans k6).trans K7).cell r0 (by simp)
              replace r1 := ((K6.trans k6).trans K7).cell r1 (by simp)
              replace r2 := ((K6.trans k6).trans K7).cell r2 (by simp)
              have t5 : (0 : Int) ≤ (i : Int) := by omega
              have t6 : (i : Int) < (R.length : Int) := by omega
              have hs1 := tsz_take hget
              have hs2 := tsz_take_le R (i + 1)
              have HG2 := Lib.hid hget; clear hget
              have HS1 := Lib.hid hs1
              generalize tsz (R.take i) = N at hs1 HS1 ⊢
              rw [hs1] at hs2
              clear hs1
              go_wp2_with fail
              refine ⟨⟨i + 1, by omega, ?_, by go_num, K7.alloc _⟩, by simp [intOf]; omega⟩
              rw [HS1.out]
              go_num
            · have hii : i = R.length := by omega
              subst hii
              rw [List.take_length]
              have x1 := K7.cell (X6.cell 1 rfl) (by simp)
              have x2 := K7.cell (X6.cell 2 rfl) (by simp)
              have e1 : decide ((mx : Int) < (tsz R : Int)) = false := decide_eq_false (by omega)
              have e2 : decide ((4096 : Int) < (mx : Int)) = false := decide_eq_false (by omega)
              go_wp2_with fail
              exact ⟨⟨j + 1, by omega, by go_num, (K6.trans k6).trans K7⟩, by simp [intOf]; omega⟩
        · go_wp2_with fail
          exact ⟨⟨k + 1, by omega, by go_num, ((K.trans k4).trans k5).trans K6⟩, by simp [intOf]; omega⟩
    · go_wp2_with ((go_at_call 9; refine (talk_last wr (HG.out.kept (K3.trans K) (by simp) (by simp)) (HE.out.kept (K3.trans K) (by simp))).mono ?_; rintro e w5 ⟨p5, c5, rfl, K5⟩))
      go_ret
      exact ⟨rfl, (K3.trans K).trans K5⟩
end Go.Proofs.YtoceghdnipjkfaaDoor
