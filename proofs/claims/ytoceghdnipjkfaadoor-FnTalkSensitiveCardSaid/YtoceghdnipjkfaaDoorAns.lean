/-
  Talk's answers as the laws read them; the laws' last call.
-/
import Derived.Test.YtoceghdnipjkfaaDoorAgain
namespace Go.Proofs.YtoceghdnipjkfaaDoor
open Go.RowKit
attribute [local irreducible] st

/-- one answer's cells and rows -/
structure SaidAt (w : World) (g o : Nat) (s : SaidD) (bv fv ev dv : Value) : Prop where
  c0 : w.cell? ⟨g, o, none⟩ = some bv
  c1 : w.cell? ⟨g, o + 1, none⟩ = some fv
  c2 : w.cell? ⟨g, o + 2, none⟩ = some (.bool true)
  c3 : w.cell? ⟨g, o + 3, none⟩ = some ev
  c4 : w.cell? ⟨g, o + 4, none⟩ = some (.int .i64 (tsz s.tab.ents : Nat))
  c5 : w.cell? ⟨g, o + 5, none⟩ = some (.int .i64 (s.mx : Nat))
  c6 : w.cell? ⟨g, o + 6, none⟩ = some dv
  c7 : w.cell? ⟨g, o + 7, none⟩ = some (.int .i64 (tsz s.tab.ents : Nat))
  c8 : w.cell? ⟨g, o + 8, none⟩ = some (.int .i64 (s.mx : Nat))
  b : ∃ p c, bv = .slice p s.bytes.length c
  f : FldsAt w fv s.flds
  e : FldsAt w ev s.tab.ents.reverse
  d : FldsAt w dv s.tab.ents.reverse
theorem SaidAt.kept {w w' : World} {g o : Nat} {s : SaidD} {bv fv ev dv : Value} (h : SaidAt w g o s bv fv ev dv) (hk : Kept [] w w') : SaidAt w' g o s bv fv ev dv :=
  ⟨hk.cell h.c0 (by simp), hk.cell h.c1 (by simp), hk.cell h.c2 (by simp), hk.cell h.c3 (by simp), hk.cell h.c4 (by simp), hk.cell h.c5 (by simp), hk.cell h.c6 (by simp), hk.cell h.c7 (by simp), hk.cell h.c8 (by simp), h.b, h.f.kept hk, h.e.kept hk, h.d.kept hk⟩
def SaidsAt (w : World) (v : Value) (ss : List SaidD) : Prop :=
  ∃ p c, v = .slice p ss.length c ∧ ∀ i s, ss[i]? = some s → ∃ g o bv fv ev dv, p = some ⟨g, o, none⟩ ∧ SaidAt w g (o + i * 9) s bv fv ev dv

theorem saids_get {w : World} {M : Nat → Prop} : ∀ (xs : List (List Value)) (ss : List SaidD), Saids w M xs ss → ∀ (i : Nat) (s : SaidD), ss[i]? = some s →
    ∃ bv fv ev dv, SaidRow w bv fv ev dv s ∧ ∀ j v, (saidCells bv fv ev dv s)[j]? = some v → xs.flatten[i * 9 + j]? = some v
  | [], [], _, i, s, h => by simp at h
  | [], _ :: _, h, _, _, _ => h.elim
  | _ :: _, [], h, _, _, _ => h.elim
  | x :: xs, s0 :: ss, h, i, s, hi => by
    obtain ⟨⟨bv, fv, ev, dv, rfl, hr, _⟩, h2⟩ := h
    cases i with
    | zero =>
      simp at hi; subst hi
      refine ⟨bv, fv, ev, dv, hr, fun j v hj => ?_⟩
      have hl : j < (saidCells bv fv ev dv s0).length := (List.getElem?_eq_some_iff.1 hj).1
      rw [List.flatten_cons, Nat.zero_mul, Nat.zero_add, List.getElem?_append_left hl]
      exact hj
    | succ i =>
      obtain ⟨bv', fv', ev', dv', hr', hc⟩ := saids_get xs ss h2 i s (by simpa using hi)
      refine ⟨bv', fv', ev', dv', hr', fun j v hj => ?_⟩
      have h9 : (saidCells bv fv ev dv s0).length = 9 := rfl
      rw [List.flatten_cons, List.getElem?_append_right (by rw [h9]; omega), h9, show (i + 1) * 9 + j - 9 = i * 9 + j by omega]
      exact hc j v hj
theorem saids_at {w : World} {M : Nat → Prop} {v : Value} {xs : List (List Value)} {ss : List SaidD} (ho : w.ownsRow 0 35 9 v xs.length xs.flatten) (h : Saids w M xs ss) : SaidsAt w v ss := by
  obtain ⟨p, c, hv, _⟩ := ownsRow_slice ho
  subst hv
  refine ⟨p, c, by rw [Saids.len _ _ h], fun i s hs => ?_⟩
  have hl : 0 < xs.length := by rw [Saids.len _ _ h]; exact Nat.lt_of_le_of_lt (Nat.zero_le i) (List.getElem?_eq_some_iff.1 hs).1
  obtain ⟨g, rfl⟩ : ∃ g, p = some ⟨g, 0, none⟩ := by
    rcases ho.2 with ⟨h0, h1⟩ | ⟨g, cap', cur, h0, _⟩
    · omega
    · simp at h0; exact ⟨g, h0.1⟩
  obtain ⟨bv, fv, ev, dv, hr, hc⟩ := saids_get _ _ h i s hs
  have hcc := ho.cells (g := g) rfl
  have cc : ∀ j v, (saidCells bv fv ev dv s)[j]? = some v → w.cell? ⟨g, 0 + i * 9 + j, none⟩ = some v := by
    intro j v hj
    have h := hcc _ v (hc j v hj)
    rw [Addr.add_lit, ← Nat.add_assoc] at h
    exact h
  obtain ⟨pb, cb, hb, _⟩ := ownsRow_slice hr.b
  exact ⟨g, 0, bv, fv, ev, dv, rfl, cc 0 _ rfl, cc 1 _ rfl, cc 2 _ rfl, cc 3 _ rfl, cc 4 _ rfl, cc 5 _ rfl, cc 6 _ rfl, cc 7 _ rfl, cc 8 _ rfl, ⟨pb, cb, hb⟩,
    FldsAt.ofRow hr.f, FldsAt.ofRow (by rw [List.length_reverse]; exact hr.e), FldsAt.ofRow (by rw [List.length_reverse]; exact hr.d)⟩

/-- the laws' last call: one part, one field, no word on the size -/
def single (f : Fld) : List PartD := [⟨-1, [f]⟩]
theorem single_ok (f : Fld) (h : f.name.size + f.value.size ≤ 4064) : AllOk (single f) := by
  refine ⟨fun p hp => ?_, ?_, by simp [single]⟩
  · simp [single] at hp; subst hp; exact ⟨by simp, (by decide : (-1 : Int) < 4294967296)⟩
  · simp [single, pcost, fcost]; omega
theorem parts_single {W : World} {rb : Nat} {f : Fld} (B : Blk W rb (fc f) 23) :
    PartsAt (W.alloc (.cells #[.int .i64 (-1), .slice (some ⟨rb, 0, none⟩) 1 1] 27)) (.slice (some ⟨W.heap.size, 0, none⟩) 1 1) (single f) := by
  have P := Blk.new W [.int .i64 (-1), .slice (some ⟨rb, 0, none⟩) 1 1] 27
  have B' := B.alloc (.cells #[.int .i64 (-1), .slice (some ⟨rb, 0, none⟩) 1 1] 27)
  have hf : FldsAt (W.alloc (.cells #[.int .i64 (-1), .slice (some ⟨rb, 0, none⟩) 1 1] 27)) (.slice (some ⟨rb, 0, none⟩) 1 1) [f] := by
    refine ⟨_, 1, rfl, fun j g hj => ?_⟩
    have h0 : j = 0 := by have := (List.getElem?_eq_some_iff.1 hj).1; simp at this; exact this
    subst h0
    simp at hj; subst hj
    exact ⟨rb, 0, rfl, B'.cell 0 rfl, B'.cell 1 rfl, B'.cell 2 rfl⟩
  refine ⟨_, 1, rfl, fun i q hi => ?_⟩
  have h2 : i = 0 := by have := (List.getElem?_eq_some_iff.1 hi).1; simp [single] at this; exact this
  subst h2
  simp [single] at hi; subst hi
  exact ⟨W.heap.size, 0, _, rfl, P.cell 0 rfl, P.cell 1 rfl, hf⟩
/-- the field of the laws' last call -/
def fldA : Fld := ⟨{ data := #[97] }, { data := #[] }, false⟩
theorem fldA_ok : AllOk (single fldA) := single_ok fldA (by decide)
theorem parts_last (W : World) :
    PartsAt ((W.alloc (.cells #[.string { data := #[97] }, .string { data := #[] }, .bool false] 23)).alloc (.cells #[.int .i64 (-1), .slice (some ⟨W.heap.size, 0, none⟩) 1 1] 27)) (.slice (some ⟨W.heap.size + 1, 0, none⟩) 1 1) (single fldA) := by
  have h := parts_single (W := W.alloc (.cells #[.string { data := #[97] }, .string { data := #[] }, .bool false] 23)) (rb := W.heap.size) (f := fldA) (Blk.new W (fc fldA) 23)
  rw [show (W.alloc (.cells #[.string { data := #[97] }, .string { data := #[] }, .bool false] 23)).heap.size = W.heap.size + 1 by simp] at h
  exact h
theorem last_kept (W : World) (a b : Obj) : Kept [] W ((W.alloc a).alloc b) := ((Kept.refl [] W).alloc a).alloc b
/-- Talk on one part: one answer -/
theorem talk_last (W : World) (hg : Glob W) (he : ErrAt W) :
    Calls Tryd.prog 9 #[.slice (some ⟨W.heap.size + 1, 0, none⟩) 1 1] ((W.alloc (.cells #[.string { data := #[97] }, .string { data := #[] }, .bool false] 23)).alloc (.cells #[.int .i64 (-1), .slice (some ⟨W.heap.size, 0, none⟩) 1 1] 27))
      fun e w' => ∃ p c, e = .returned (.slice p 1 c) ∧ Kept [] W w' := by
  refine (talk_any _ (single fldA) _ (parts_last W) (hg.kept (last_kept W _ _) (by simp) (by simp)) (he.kept (last_kept W _ _) (by simp)) fldA_ok).mono ?_
  rintro e w' ⟨v, xs, rfl, K, own, S⟩
  obtain ⟨p, c, hv, _⟩ := saids_at own S
  rw [talk_len] at hv
  exact ⟨p, c, by rw [hv]; rfl, (last_kept W _ _).trans K⟩
end Go.Proofs.YtoceghdnipjkfaaDoor
