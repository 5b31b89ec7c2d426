/-
  FnTalkAgain: a field that is in the table is written in one byte the next time.
-/
import Derived.Test.YtoceghdnipjkfaaDoorTalk
import Derived.Test.YtoceghdnipjkfaaDoorSmall
namespace Go.Proofs.YtoceghdnipjkfaaDoor
open Go.RowKit
attribute [local irreducible] st

/-- two parts of one field, no word on the size -/
def twice (f : Fld) : List PartD := [⟨-1, [f]⟩, ⟨-1, [f]⟩]
theorem say_neg (T : Tab) (mx : Nat) (f : Fld) : sayOne T mx ⟨-1, [f]⟩ = ⟨encField f T mx, [f], nextTab f T mx, mx⟩ := by
  have hb : boundOf mx ⟨-1, [f]⟩ = mx := rfl
  have ht : tabOf mx T ⟨-1, [f]⟩ = T := rfl
  have hu : updOf ⟨-1, [f]⟩ = false := rfl
  unfold sayOne
  rw [hb, ht, hu]
  simp [updB, encAll, tabAll]
theorem talk_twice (f : Fld) : talk (twice f) = [⟨encField f ⟨[], 0⟩ 4096, [f], nextTab f ⟨[], 0⟩ 4096, 4096⟩, ⟨encField f (nextTab f ⟨[], 0⟩ 4096) 4096, [f], nextTab f (nextTab f ⟨[], 0⟩ 4096) 4096, 4096⟩] := by
  unfold talk twice
  simp only [talkFrom, say_neg]
theorem one_byte {i : Nat} (h : i < 127) : (orF 128 (vi 7 i)).length = 1 := by
  have hv : vi 7 i = [b8 i] := by unfold vi; rw [if_pos (by omega)]
  rw [orF_len, hv]; rfl
theorem again_plain (f : Fld) (hs : f.sens = false) (hz : f.name.size + f.value.size ≤ 4064) :
    (encField f (nextTab f ⟨[], 0⟩ 4096) 4096).length = 1 ∧ nextTab f (nextTab f ⟨[], 0⟩ 4096) 4096 = nextTab f ⟨[], 0⟩ 4096 ∧ (nextTab f ⟨[], 0⟩ 4096).ents.length ≤ 1 := by
  have hd0 : searchDyn f ⟨[], 0⟩ = (0, false) := by unfold searchDyn searchRes; simp [lastId]
  cases hst : (searchSt f).2
  · have ha0 : (searchAll f ⟨[], 0⟩).2 = false := by unfold searchAll; rw [hst, hd0]; simp
    have hsh : should f 4096 = true := by unfold should; rw [hs]; simp [fsz]; omega
    have hfit : tsz [f] ≤ 4096 := by simp [tsz, fsz]; omega
    have hT1 : nextTab f ⟨[], 0⟩ 4096 = ⟨[f], 0⟩ := by
      unfold nextTab; rw [ha0, hsh]
      simp only [Bool.false_eq_true, if_false, if_true, List.nil_append]
      exact fit_id (T := ⟨[f], 0⟩) hfit
    rw [hT1]
    have hl : lastId (hasPair (f.name, f.value)) [f] (0 + 1) = 1 := by simp [lastId, hasPair]
    have hd1 : searchDyn f ⟨[f], 0⟩ = (1, true) := by
      unfold searchDyn searchRes
      rw [if_pos ⟨hs, by show lastId (hasPair (f.name, f.value)) [f] (0 + 1) ≠ 0; rw [hl]; decide⟩]
      show (0 + [f].length + 1 - lastId (hasPair (f.name, f.value)) [f] (0 + 1), true) = _
      rw [hl]; rfl
    have ha1 : searchAll f ⟨[f], 0⟩ = (62, true) := by unfold searchAll; rw [hst, hd1]; simp
    refine ⟨?_, ?_, by simp⟩
    · unfold encField; rw [ha1]; exact one_byte (i := 62) (by decide)
    · unfold nextTab; rw [ha1]; rfl
  · have ha : ∀ T, searchAll f T = ((searchSt f).1, true) := by intro T; unfold searchAll; rw [hst]; rfl
    have hn : ∀ T, nextTab f T 4096 = T := by intro T; unfold nextTab; rw [ha]; rfl
    rw [hn, hn]
    refine ⟨?_, rfl, by simp⟩
    unfold encField; rw [ha]
    exact one_byte (by have := searchSt_le f; omega)
theorem twice_ok (f : Fld) (hz : f.name.size + f.value.size ≤ 4064) : AllOk (twice f) := by
  refine ⟨?_, ?_, by simp [twice]⟩
  · intro p hp
    simp [twice] at hp; subst hp
    exact ⟨by simp, show (-1 : Int) < 4294967296 by decide⟩
  · simp [twice, pcost, fcost]; omega

theorem parts_twice {W : World} {rb : Nat} {f : Fld} (hs : f.sens = false) (B : Blk W rb [.string f.name, .string f.value, .bool false] 23) :
    PartsAt (W.alloc (.cells #[.int .i64 (-1), .slice (some ⟨rb, 0, none⟩) 1 1, .int .i64 (-1), .slice (some ⟨rb, 0, none⟩) 1 1] 27)) (.slice (some ⟨W.heap.size, 0, none⟩) 2 2) (twice f) := by
  have P := Blk.new W [.int .i64 (-1), .slice (some ⟨rb, 0, none⟩) 1 1, .int .i64 (-1), .slice (some ⟨rb, 0, none⟩) 1 1] 27
  have B' := B.alloc (.cells #[.int .i64 (-1), .slice (some ⟨rb, 0, none⟩) 1 1, .int .i64 (-1), .slice (some ⟨rb, 0, none⟩) 1 1] 27)
  have hf : FldsAt (W.alloc (.cells #[.int .i64 (-1), .slice (some ⟨rb, 0, none⟩) 1 1, .int .i64 (-1), .slice (some ⟨rb, 0, none⟩) 1 1] 27)) (.slice (some ⟨rb, 0, none⟩) 1 1) [f] := by
    refine ⟨_, 1, rfl, fun j g hj => ?_⟩
    have h0 : j = 0 := by have := (List.getElem?_eq_some_iff.1 hj).1; simp at this; exact this
    subst h0
    simp at hj; subst hj
    exact ⟨rb, 0, rfl, B'.cell 0 rfl, B'.cell 1 rfl, by rw [hs]; exact B'.cell 2 rfl⟩
  refine ⟨_, 2, rfl, fun i q hi => ?_⟩
  have h2 : i < 2 := by have := (List.getElem?_eq_some_iff.1 hi).1; simpa [twice] using this
  rcases (show i = 0 ∨ i = 1 by omega) with rfl | rfl
  · simp [twice] at hi; subst hi
    exact ⟨W.heap.size, 0, _, rfl, P.cell 0 rfl, P.cell 1 rfl, hf⟩
  · simp [twice] at hi; subst hi
    exact ⟨W.heap.size, 0, _, rfl, P.cell 2 rfl, P.cell 3 rfl, hf⟩
theorem saids_two {w : World} {M : Nat → Prop} {xs : List (List Value)} {s1 s2 : SaidD} (h : Saids w M xs [s1, s2]) : ∃ b1 f1 e1 d1 b2 f2 e2 d2, xs = [saidCells b1 f1 e1 d1 s1, saidCells b2 f2 e2 d2 s2] ∧ SaidRow w b1 f1 e1 d1 s1 ∧ SaidRow w b2 f2 e2 d2 s2 := by
  match xs, h with
  | [x, y], h =>
    obtain ⟨⟨b1, f1, e1, d1, rfl, h1, _⟩, ⟨b2, f2, e2, d2, rfl, h2, _⟩, _⟩ := h
    exact ⟨b1, f1, e1, d1, b2, f2, e2, d2, rfl, h1, h2⟩
  | [], h => exact h.elim
  | [_], h => exact h.2.elim
  | _ :: _ :: _ :: _, h => exact h.2.2.elim
def RetTrue (w : World) (e : Ending) (w' : World) : Prop := e = .returned (.bool true) ∧ Kept [] w w'
set_option maxRecDepth 100000 in
set_option maxHeartbeats 4000000 in
theorem again_main (f : Fld) (w : World) (hg : Glob w) (he : ErrAt w) (hs : f.sens = false) (h1 : f.name.size ≤ 4064) (h2 : f.value.size ≤ 4064) (h3 : f.name.size + f.value.size ≤ 4064) :
    Calls Tryd.prog 3 #[.agg #[.string f.name, .string f.value, .bool f.sens]] w (RetTrue w) := by
  have b1 : decide ((4064 : Int) < (f.name.size : Int)) = false := by simp; omega
  have b2 : decide ((4064 : Int) < (f.value.size : Int)) = false := by simp; omega
  have b3 : decide ((4064 : Int) < (f.name.size : Int) + (f.value.size : Int)) = false := by simp; omega
  have HS := Lib.hid hs; clear hs
  go_enter Tryd.func3, Tryd.ntmps3
  go_upto_region 1 with (fail)
  generalize hw1 : w.alloc _ = w1
  obtain ⟨k1, X1, hx1⟩ := box_cells (l := fc f) hw1
  generalize hxe : w.heap.size = xb at X1 hx1 ⊢
  have HW1 := Lib.hid hw1; clear hw1
  have HX := Lib.hid hxe; clear hxe
  have x0 := X1.cell 0 rfl
  have x1 := X1.cell 1 rfl
  have x2 := X1.cell 2 rfl
  go_upto_region 3 with ((go_at_call 8; refine (fits4_yes f _ (by omega) (by omega)).mono ?_; rintro e w2 ⟨rfl, K2⟩))
  have X2 := X1.kept K2 (by simp)
  clear x0 x1 x2
  have x0 := X2.cell 0 rfl
  have x1 := X2.cell 1 rfl
  have x2 := X2.cell 2 rfl
  rw [HS.out] at x2
  go_upto_region 6 with (fail)
  have hb2 := Blk.new w2 [.string f.name, .string f.value, .bool false] 23
  have k3 : Kept [] w2 (w2.alloc (.cells #[.string f.name, .string f.value, .bool false] 23)) := (Kept.refl [] w2).alloc _
  have hrs : (w2.alloc (.cells #[.string f.name, .string f.value, .bool false] 23)).heap.size = w2.heap.size + 1 := by simp
  generalize hrb : w2.heap.size = rb at hb2 hrs ⊢
  have hB3 : Blk (w2.alloc (.cells #[.string f.name, .string f.value, .bool false] 23)) rb [.string f.name, .string f.value, .bool false] 23 := hb2
  generalize hw3 : w2.alloc _ = w3 at hB3 k3 hrs ⊢
  have HRB := Lib.hid hrb; clear hrb hb2
  have HW3 := Lib.hid hw3; clear hw3
  generalize hw4 : w3.alloc _ = w4
  obtain ⟨k4, Y4, hy4⟩ := box_cells (l := [.int .i64 (-1), .slice (some ⟨rb, 0, none⟩) 1 1]) hw4
  have B4 := hB3.kept k4 (by simp)
  rw [hrs] at Y4 hy4
  have HW4 := Lib.hid hw4; clear hw4
  have HRS := Lib.hid hrs; clear hrs
  have k04 : Kept [] w w4 := ((k1.trans K2).trans k3).trans k4
  have g4 := hg.kept k04 (by simp) (by simp)
  have e4 := Lib.hid (he.kept k04 (by simp))
  have y0 := Y4.cell 0 rfl
  have y1 := Y4.cell 1 rfl
  clear x0 x1 x2
  have hok := Lib.hid (twice_ok f h3)
  go_upto_region 7 with ((go_at_call 9; refine (talk_any _ (twice f) _ (parts_twice HS.out B4) (g4.kept ((Kept.refl [] w4).alloc _) (by simp) (by simp)) (e4.out.kept ((Kept.refl [] w4).alloc _) (by simp)) hok.out).mono ?_; rintro en w6 ⟨v6, xs, rfl, K6, own6, S6⟩; rw [talk_twice] at S6; obtain ⟨b1', f1, e1, d1, b2', f2, e2, d2, rfl, r1, r2⟩ := saids_two S6; obtain ⟨p6, c6, hv6, _⟩ := ownsRow_slice own6; subst hv6))
  obtain ⟨hp1, hp2, hp3⟩ := again_plain f HS.out h3
  have hp0 := encField_ne f ⟨[], 0⟩ 4096
  rw [hp2] at r2 own6
  generalize nextTab f ⟨[], 0⟩ 4096 = T1 at r1 r2 hp1 hp3 own6
  generalize encField f ⟨[], 0⟩ 4096 = y1 at r1 hp0 own6
  generalize encField f T1 4096 = y2 at r2 hp1 own6
  obtain ⟨pb1, cb1, hb1, _⟩ := ownsRow_slice r1.b
  obtain ⟨pb2, cb2, hb2, _⟩ := ownsRow_slice r2.b
  obtain ⟨pe1, ce1, he1, _⟩ := ownsRow_slice r1.e
  obtain ⟨pe2, ce2, he2, _⟩ := ownsRow_slice r2.e
  subst hb1; subst hb2; subst he1; subst he2
  obtain ⟨g, rfl⟩ : ∃ g, p6 = some ⟨g, 0, none⟩ := by
    rcases own6.2 with ⟨h0, h1⟩ | ⟨g, cap', cur, h0, _⟩
    · simp at h1
    · simp at h0; exact ⟨g, h0.1⟩
  have hcc := own6.cells (g := g) rfl
  have cc : ∀ j v, ([saidCells (.slice pb1 y1.length cb1) f1 (.slice pe1 T1.ents.length ce1) d1 ⟨y1, [f], T1, 4096⟩, saidCells (.slice pb2 y2.length cb2) f2 (.slice pe2 T1.ents.length ce2) d2 ⟨y2, [f], T1, 4096⟩].flatten)[j]? = some v → w6.cell? ⟨g, j, none⟩ = some v := by
    intro j v hj
    have h := hcc j v hj
    rw [Addr.add_lit, Nat.zero_add] at h
    exact h
  have q0 := cc 0 _ rfl
  have q3 := cc 3 _ rfl
  have q9 := cc 9 _ rfl
  have q12 := cc 12 _ rfl
  have ea : FldsAt w6 (.slice pe1 T1.ents.length ce1) T1.ents.reverse := FldsAt.ofRow (by rw [List.length_reverse]; exact r1.e)
  have eb : FldsAt w6 (.slice pe2 T1.ents.length ce2) T1.ents.reverse := FldsAt.ofRow (by rw [List.length_reverse]; exact r2.e)
  have hrl : T1.ents.reverse.length ≤ 4000000 := by rw [List.length_reverse]; omega
  generalize hn2 : y2.length = n2 at q9 hp1
  subst hp1
  generalize hn1 : y1.length = n1 at q0 hp0
  generalize hn3 : T1.ents.length = n3 at q3 q12 hp3 ea eb
  have HRL := Lib.hid hrl; clear hrl
  have EA := Lib.hid ea; clear ea
  have EB := Lib.hid eb; clear eb
  clear hcc cc r1 r2 own6 hp2
  have hn1' := Lib.hid hn1; clear hn1
  have hn2' := Lib.hid hn2; clear hn2
  have hn3' := Lib.hid hn3; clear hn3
  have bn1 : decide ((0 : Int) < (n1 : Int)) = true := by simp; omega
  have bn3 : decide ((n3 : Int) ≤ 1) = true := by simp; omega
  go_quiet ((go_at_call 10; exact Calls.quiet_of (equal_any _ _ T1.ents.reverse _ (EA.out.drewN _) (EB.out.drewN _) HRL.out)))
  go_wp2_with fail
  go_ret
  exact ⟨rfl, ((k04.trans ((Kept.refl [] w4).alloc _)).trans K6).drewN _⟩
set_option maxRecDepth 100000 in
set_option maxHeartbeats 1000000 in
theorem again_unfit (f : Fld) (w : World) (hb : Calls Tryd.prog 8 #[.agg #[.string f.name, .string f.value, .bool f.sens]] (w.alloc (.cells (fc f).toArray 23)) fun e w' => e = .returned (.bool false) ∧ Kept [] (w.alloc (.cells (fc f).toArray 23)) w') :
    Calls Tryd.prog 3 #[.agg #[.string f.name, .string f.value, .bool f.sens]] w (RetTrue w) := by
  go_enter Tryd.func3, Tryd.ntmps3
  go_upto_region 1 with (fail)
  generalize hw1 : w.alloc _ = w1
  rw [show w.alloc (.cells (fc f).toArray 23) = w1 from hw1] at hb
  obtain ⟨k1, X1, hx1⟩ := box_cells (l := fc f) hw1
  generalize hxe : w.heap.size = xb at X1 hx1 ⊢
  have HW1 := Lib.hid hw1; clear hw1
  have HX := Lib.hid hxe; clear hxe
  have x0 := X1.cell 0 rfl
  have x1 := X1.cell 1 rfl
  have x2 := X1.cell 2 rfl
  go_wp2_with ((go_at_call 8; refine hb.mono ?_; rintro e w2 ⟨rfl, K2⟩))
  go_ret
  exact ⟨rfl, k1.trans K2⟩
theorem fits4_no (f : Fld) (w : World) (h1 : f.name.size ≤ 9223372036854775807) (h2 : f.value.size ≤ 9223372036854775807) (hn : ¬ (f.name.size ≤ 2147483647 ∧ f.value.size ≤ 2147483647)) :
    Calls Tryd.prog 8 #[.agg #[.string f.name, .string f.value, .bool f.sens]] w fun e w' => e = .returned (.bool false) ∧ Kept [] w w' := by
  by_cases g1 : 2147483647 < f.name.size
  · have b1 : decide ((2147483647 : Int) < (f.name.size : Int)) = true := by simp; omega
    go_enter Tryd.func8, Tryd.ntmps8
    go_wp2_with fail
    go_ret
    exact ⟨rfl, (Kept.refl _ _).alloc _⟩
  · have b1 : decide ((2147483647 : Int) < (f.name.size : Int)) = false := by simp; omega
    have b2 : decide ((2147483647 : Int) < (f.value.size : Int)) = true := by simp; omega
    go_enter Tryd.func8, Tryd.ntmps8
    go_wp2_with fail
    go_ret
    exact ⟨rfl, (Kept.refl _ _).alloc _⟩
set_option maxRecDepth 100000 in
set_option maxHeartbeats 2000000 in
theorem again_skip (f : Fld) (w : World) (h1 : f.name.size ≤ 2147483647) (h2 : f.value.size ≤ 2147483647) (hn : ¬ (f.sens = false ∧ f.name.size ≤ 4064 ∧ f.value.size ≤ 4064 ∧ f.name.size + f.value.size ≤ 4064)) :
    Calls Tryd.prog 3 #[.agg #[.string f.name, .string f.value, .bool f.sens]] w (RetTrue w) := by
  have core : ∀ (t : Bool), f.sens = t → (t = true ∨ 4064 < f.name.size ∨ (f.name.size ≤ 4064 ∧ 4064 < f.value.size) ∨ (f.name.size ≤ 4064 ∧ f.value.size ≤ 4064 ∧ 4064 < f.name.size + f.value.size)) → Calls Tryd.prog 3 #[.agg #[.string f.name, .string f.value, .bool f.sens]] w (RetTrue w) := by
    intro t ht hc
    have HT := Lib.hid ht; clear ht hn
    cases t
    · rcases hc with h | h | ⟨h, h'⟩ | ⟨h, h', h''⟩
      · cases h
      · have b1 : decide ((4064 : Int) < (f.name.size : Int)) = true := by simp; omega
        go_enter Tryd.func3, Tryd.ntmps3
        go_upto_region 1 with (fail)
        generalize hw1 : w.alloc _ = w1
        obtain ⟨k1, X1, hx1⟩ := box_cells (l := fc f) hw1
        generalize hxe : w.heap.size = xb at X1 hx1 ⊢
        have HW1 := Lib.hid hw1; clear hw1
        have HX := Lib.hid hxe; clear hxe
        have x0 := X1.cell 0 rfl
        have x1 := X1.cell 1 rfl
        have x2 := X1.cell 2 rfl
        go_upto_region 3 with ((go_at_call 8; refine (fits4_yes f _ h1 h2).mono ?_; rintro e w2 ⟨rfl, K2⟩))
        have X2 := X1.kept K2 (by simp)
        clear x0 x1 x2
        have x0 := X2.cell 0 rfl
        have x1 := X2.cell 1 rfl
        have x2 := X2.cell 2 rfl
        rw [HT.out] at x2
        go_wp2_with fail
        go_ret
        exact ⟨rfl, k1.trans K2⟩
      · have b1 : decide ((4064 : Int) < (f.name.size : Int)) = false := by simp; omega
        have b2 : decide ((4064 : Int) < (f.value.size : Int)) = true := by simp; omega
        go_enter Tryd.func3, Tryd.ntmps3
        go_upto_region 1 with (fail)
        generalize hw1 : w.alloc _ = w1
        obtain ⟨k1, X1, hx1⟩ := box_cells (l := fc f) hw1
        generalize hxe : w.heap.size = xb at X1 hx1 ⊢
        have HW1 := Lib.hid hw1; clear hw1
        have HX := Lib.hid hxe; clear hxe
        have x0 := X1.cell 0 rfl
        have x1 := X1.cell 1 rfl
        have x2 := X1.cell 2 rfl
        go_upto_region 3 with ((go_at_call 8; refine (fits4_yes f _ h1 h2).mono ?_; rintro e w2 ⟨rfl, K2⟩))
        have X2 := X1.kept K2 (by simp)
        clear x0 x1 x2
        have x0 := X2.cell 0 rfl
        have x1 := X2.cell 1 rfl
        have x2 := X2.cell 2 rfl
        rw [HT.out] at x2
        go_wp2_with fail
        go_ret
        exact ⟨rfl, k1.trans K2⟩
      · have b1 : decide ((4064 : Int) < (f.name.size : Int)) = false := by simp; omega
        have b2 : decide ((4064 : Int) < (f.value.size : Int)) = false := by simp; omega
        have b3 : decide ((4064 : Int) < (f.name.size : Int) + (f.value.size : Int)) = true := by simp; omega
        go_enter Tryd.func3, Tryd.ntmps3
        go_upto_region 1 with (fail)
        generalize hw1 : w.alloc _ = w1
        obtain ⟨k1, X1, hx1⟩ := box_cells (l := fc f) hw1
        generalize hxe : w.heap.size = xb at X1 hx1 ⊢
        have HW1 := Lib.hid hw1; clear hw1
        have HX := Lib.hid hxe; clear hxe
        have x0 := X1.cell 0 rfl
        have x1 := X1.cell 1 rfl
        have x2 := X1.cell 2 rfl
        go_upto_region 3 with ((go_at_call 8; refine (fits4_yes f _ h1 h2).mono ?_; rintro e w2 ⟨rfl, K2⟩))
        have X2 := X1.kept K2 (by simp)
        clear x0 x1 x2
        have x0 := X2.cell 0 rfl
        have x1 := X2.cell 1 rfl
        have x2 := X2.cell 2 rfl
        rw [HT.out] at x2
        go_wp2_with fail
        go_ret
        exact ⟨rfl, k1.trans K2⟩
    · clear hc
      go_enter Tryd.func3, Tryd.ntmps3
      go_upto_region 1 with (fail)
      generalize hw1 : w.alloc _ = w1
      obtain ⟨k1, X1, hx1⟩ := box_cells (l := fc f) hw1
      generalize hxe : w.heap.size = xb at X1 hx1 ⊢
      have HW1 := Lib.hid hw1; clear hw1
      have HX := Lib.hid hxe; clear hxe
      have x0 := X1.cell 0 rfl
      have x1 := X1.cell 1 rfl
      have x2 := X1.cell 2 rfl
      go_upto_region 3 with ((go_at_call 8; refine (fits4_yes f _ h1 h2).mono ?_; rintro e w2 ⟨rfl, K2⟩))
      have X2 := X1.kept K2 (by simp)
      clear x0 x1 x2
      have x2 := X2.cell 2 rfl
      rw [HT.out] at x2
      go_wp2_with fail
      go_ret
      exact ⟨rfl, k1.trans K2⟩
  refine core f.sens rfl ?_
  cases hs : f.sens
  · right
    by_cases a1 : f.name.size ≤ 4064
    · by_cases a2 : f.value.size ≤ 4064
      · by_cases a3 : f.name.size + f.value.size ≤ 4064
        · exact absurd ⟨hs, a1, a2, a3⟩ hn
        · omega
      · omega
    · omega
  · left; rfl
/-- FnTalkAgain returns true, whatever the field -/
theorem again_any (f : Fld) (w : World) (hg : Glob w) (he : ErrAt w) (h1 : f.name.size ≤ 9223372036854775807) (h2 : f.value.size ≤ 9223372036854775807) :
    Calls Tryd.prog 3 #[.agg #[.string f.name, .string f.value, .bool f.sens]] w (RetTrue w) := by
  by_cases hf : f.name.size ≤ 2147483647 ∧ f.value.size ≤ 2147483647
  · by_cases hm : f.sens = false ∧ f.name.size ≤ 4064 ∧ f.value.size ≤ 4064 ∧ f.name.size + f.value.size ≤ 4064
    · exact again_main f w hg he hm.1 hm.2.1 hm.2.2.1 hm.2.2.2
    · exact again_skip f w hf.1 hf.2 hm
  · exact again_unfit f w (fits4_no f _ h1 h2 hf)
end Go.Proofs.YtoceghdnipjkfaaDoor
