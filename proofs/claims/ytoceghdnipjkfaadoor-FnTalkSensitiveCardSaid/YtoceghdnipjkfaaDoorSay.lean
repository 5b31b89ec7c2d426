/-
  What Talk says, in plain data: part by part, the bytes, the fields, the table and its bound.
-/
import Derived.Test.YtoceghdnipjkfaaDoorDstep
namespace Go.Proofs.YtoceghdnipjkfaaDoor
open Go.RowKit
attribute [local irreducible] st

structure PartD where
  size : Int
  flds : List Fld
structure SaidD where
  bytes : List UInt8
  flds : List Fld
  tab : Tab
  mx : Nat
/-- the bound behind a part's word, the table under it -/
def boundOf (mx : Nat) (p : PartD) : Nat := if 0 ≤ p.size then min p.size.toNat 4096 else mx
def tabOf (mx : Nat) (T : Tab) (p : PartD) : Tab := if 0 ≤ p.size then fit (boundOf mx p) T else T
def updOf (p : PartD) : Bool := decide (0 ≤ p.size)
noncomputable def sayOne (T : Tab) (mx : Nat) (p : PartD) : SaidD :=
  ⟨updB (updOf p) (boundOf mx p) ++ encAll (boundOf mx p) p.flds (tabOf mx T p), p.flds, tabAll (boundOf mx p) p.flds (tabOf mx T p), boundOf mx p⟩
noncomputable def talkFrom : Tab → Nat → List PartD → List SaidD
  | _, _, [] => []
  | T, mx, p :: r => sayOne T mx p :: talkFrom (sayOne T mx p).tab (sayOne T mx p).mx r
noncomputable def stOf : Tab → Nat → List PartD → Tab × Nat
  | T, mx, [] => (T, mx)
  | T, mx, p :: r => stOf (sayOne T mx p).tab (sayOne T mx p).mx r
noncomputable def talk (ps : List PartD) : List SaidD := talkFrom ⟨[], 0⟩ 4096 ps
noncomputable def state (ps : List PartD) : Tab × Nat := stOf ⟨[], 0⟩ 4096 ps
theorem talkFrom_len : ∀ (ps : List PartD) (T : Tab) (mx : Nat), (talkFrom T mx ps).length = ps.length
  | [], _, _ => rfl
  | p :: r, T, mx => by simp [talkFrom, talkFrom_len r]
theorem talk_len (ps : List PartD) : (talk ps).length = ps.length := talkFrom_len ps _ _
theorem talkFrom_snoc : ∀ (a : List PartD) (p : PartD) (T : Tab) (mx : Nat), talkFrom T mx (a ++ [p]) = talkFrom T mx a ++ [sayOne (stOf T mx a).1 (stOf T mx a).2 p]
  | [], _, _, _ => rfl
  | q :: r, p, T, mx => by simp only [List.cons_append, talkFrom, stOf, talkFrom_snoc r p]
theorem stOf_snoc : ∀ (a : List PartD) (p : PartD) (T : Tab) (mx : Nat), stOf T mx (a ++ [p]) = ((sayOne (stOf T mx a).1 (stOf T mx a).2 p).tab, (sayOne (stOf T mx a).1 (stOf T mx a).2 p).mx)
  | [], _, _, _ => rfl
  | q :: r, p, T, mx => by simp only [List.cons_append, stOf, stOf_snoc r p]
theorem talk_snoc (a : List PartD) (p : PartD) : talk (a ++ [p]) = talk a ++ [sayOne (state a).1 (state a).2 p] := talkFrom_snoc a p _ _
theorem state_snoc (a : List PartD) (p : PartD) : state (a ++ [p]) = ((sayOne (state a).1 (state a).2 p).tab, (sayOne (state a).1 (state a).2 p).mx) := stOf_snoc a p _ _

/-- how much there is -/
def fcost (l : List Fld) : Nat := (l.map fun f => 1 + f.name.size + f.value.size).sum
def pcost (ps : List PartD) : Nat := (ps.map fun p => fcost p.flds).sum
theorem fcost_append (a b : List Fld) : fcost (a ++ b) = fcost a + fcost b := by simp [fcost]
theorem pcost_append (a b : List PartD) : pcost (a ++ b) = pcost a + pcost b := by simp [pcost]
theorem fcost_len : ∀ (l : List Fld), l.length ≤ fcost l
  | [] => Nat.zero_le _
  | f :: r => by have := fcost_len r; simp [fcost] at this ⊢; omega
theorem fcost_mem {l : List Fld} {f : Fld} (h : f ∈ l) : f.name.size + f.value.size < fcost l := by
  obtain ⟨a, b, rfl⟩ := List.append_of_mem h
  rw [fcost_append]
  simp [fcost]; omega
structure POk (p : PartD) : Prop where
  ne : p.flds ≠ []
  sz : p.size < 4294967296
structure AllOk (ps : List PartD) : Prop where
  each : ∀ p ∈ ps, POk p
  all : pcost ps ≤ 1048576
  len : ps.length ≤ 1048576

/-- the state is well: the table fits its bound, and is no longer than what was written -/
structure StOk (T : Tab) (mx n : Nat) : Prop where
  ok : TOk T mx
  cnt : T.ents.length + T.ev ≤ n
theorem tabAll_ok (mx : Nat) : ∀ (l : List Fld) (T : Tab) (n : Nat), StOk T mx n → n + fcost l ≤ 1048576 → StOk (tabAll mx l T) mx (n + fcost l)
  | [], T, n, h, _ => by simpa [tabAll, fcost] using h
  | f :: r, T, n, h, hl => by
    have hc : fcost (f :: r) = 1 + f.name.size + f.value.size + fcost r := by simp [fcost]
    have h1 := h.cnt
    have h2 := nextTab_len f T mx
    have hs : StOk (nextTab f T mx) mx (n + (1 + f.name.size + f.value.size)) := ⟨nextTab_ok h.ok (by omega) (by omega), by omega⟩
    have := tabAll_ok mx r _ _ hs (by omega)
    rw [hc, ← Nat.add_assoc]
    exact this
theorem boundOf_le {mx : Nat} (h : mx ≤ 4096) (p : PartD) : boundOf mx p ≤ 4096 := by unfold boundOf; split <;> omega
theorem tabOf_ok {T : Tab} {mx n : Nat} (h : StOk T mx n) (p : PartD) : StOk (tabOf mx T p) (boundOf mx p) n := by
  by_cases hp : 0 ≤ p.size
  · unfold tabOf; rw [if_pos hp]
    exact ⟨fit_ok h.ok (boundOf_le h.ok.mx p), by rw [fit_len]; exact h.cnt⟩
  · unfold tabOf boundOf; rw [if_neg hp, if_neg hp]; exact h
theorem sayOne_ok {T : Tab} {mx n : Nat} (h : StOk T mx n) (p : PartD) (hn : n + fcost p.flds ≤ 1048576) : StOk (sayOne T mx p).tab (sayOne T mx p).mx (n + fcost p.flds) :=
  tabAll_ok _ _ _ _ (tabOf_ok h p) hn
theorem start_ok : StOk ⟨[], 0⟩ 4096 0 := ⟨⟨by decide, by decide, by decide, by intro f hf; cases hf⟩, by decide⟩
theorem stOf_ok : ∀ (ps : List PartD) (T : Tab) (mx n : Nat), StOk T mx n → n + pcost ps ≤ 1048576 → StOk (stOf T mx ps).1 (stOf T mx ps).2 (n + pcost ps)
  | [], T, mx, n, h, _ => by simpa [stOf, pcost] using h
  | p :: r, T, mx, n, h, hl => by
    have hc : pcost (p :: r) = fcost p.flds + pcost r := by simp [pcost]
    have := stOf_ok r _ _ _ (sayOne_ok h p (by omega)) (by omega)
    rw [hc, ← Nat.add_assoc]
    exact this
theorem state_ok (ps : List PartD) (h : pcost ps ≤ 1048576) : StOk (state ps).1 (state ps).2 (pcost ps) := by
  have := stOf_ok ps _ _ _ start_ok (by omega)
  rwa [Nat.zero_add] at this

theorem searchAll_le {f : Fld} {T : Tab} : (searchAll f T).1 ≤ 61 + T.ents.length := by
  rcases found_all f T with h | ⟨i, mt, g, h, F⟩
  · rw [h]; omega
  · rw [h]; exact F.hi
theorem encAll_len (mx : Nat) : ∀ (l : List Fld) (T : Tab) (n : Nat), StOk T mx n → n + fcost l ≤ 1048576 → (encAll mx l T).length ≤ 21 * fcost l
  | [], T, n, h, _ => by simp [encAll]
  | f :: r, T, n, h, hl => by
    have hc : fcost (f :: r) = 1 + f.name.size + f.value.size + fcost r := by simp [fcost]
    have h1 := h.cnt
    have h2 := nextTab_len f T mx
    have hs : StOk (nextTab f T mx) mx (n + (1 + f.name.size + f.value.size)) := ⟨nextTab_ok h.ok (by omega) (by omega), by omega⟩
    have h3 := encAll_len mx r _ _ hs (by omega)
    have h4 := @searchAll_le f T
    have h5 := encField_len f T mx (by omega) (by omega)
    simp only [encAll, List.length_append]
    omega
theorem updB_len (b : Bool) {mx : Nat} (h : mx ≤ 4096) : (updB b mx).length ≤ 6 := by
  unfold updB; split
  · rw [orF_len]; exact vi_len 5 mx (by omega)
  · simp
theorem encAll_ne (mx : Nat) {l : List Fld} (T : Tab) (h : l ≠ []) : 0 < (encAll mx l T).length := by
  cases l with
  | nil => exact absurd rfl h
  | cons f r => simp only [encAll, List.length_append]; have := encField_ne f T mx; omega
/-- the decoder can read a part's fields -/
theorem can_fields (mx : Nat) : ∀ (l : List Fld) (T : Tab) (n : Nat) (hd : List Fld) (first : Bool), StOk T mx n → n + fcost l ≤ 1048576 → hd.length + l.length ≤ 2000000 → Can (encAll mx l T) T mx hd first (tabAll mx l T) mx (hd ++ l)
  | [], T, n, hd, first, h, _, _ => by simp only [encAll, tabAll, List.append_nil]; exact Can.done T mx hd first
  | f :: r, T, n, hd, first, h, hl, hh => by
    have hc : fcost (f :: r) = 1 + f.name.size + f.value.size + fcost r := by simp [fcost]
    have h1 := h.cnt
    have h2 := nextTab_len f T mx
    have hs : StOk (nextTab f T mx) mx (n + (1 + f.name.size + f.value.size)) := ⟨nextTab_ok h.ok (by omega) (by omega), by omega⟩
    have h3 := encAll_len mx r _ _ hs (by omega)
    have h4 := can_fields mx r (nextTab f T mx) _ (hd ++ [f]) false hs (by omega) (by simp at hh ⊢; omega)
    simp only [encAll, tabAll]
    rw [show hd ++ f :: r = (hd ++ [f]) ++ r from by simp]
    exact Can.field h.ok (by omega) (by simp at hh; omega) (by omega) h4
theorem can_part {T : Tab} {mx n : Nat} (p : PartD) (h : StOk T mx n) (hl : n + fcost p.flds ≤ 1048576) : Can (sayOne T mx p).bytes T mx [] true (sayOne T mx p).tab (sayOne T mx p).mx p.flds := by
  have hf := fcost_len p.flds
  have hT := tabOf_ok h p
  have hc := fun first => can_fields (boundOf mx p) p.flds (tabOf mx T p) n [] first hT hl (by simp; omega)
  simp only [List.nil_append] at hc
  show Can (updB (updOf p) (boundOf mx p) ++ encAll (boundOf mx p) p.flds (tabOf mx T p)) T mx [] true _ _ _
  by_cases hp : 0 ≤ p.size
  · have hu : updB (updOf p) (boundOf mx p) = orF 32 (vi 5 (boundOf mx p)) := by unfold updB updOf; rw [if_pos (by simpa using hp)]
    have ht : tabOf mx T p = fit (boundOf mx p) T := by unfold tabOf; rw [if_pos hp]
    rw [hu]
    refine Can.size (boundOf_le h.ok.mx p) h.ok ?_
    rw [← ht]; exact hc false
  · have hu : updB (updOf p) (boundOf mx p) = [] := by unfold updB updOf; rw [if_neg (by simpa using hp)]
    have ht : tabOf mx T p = T := by unfold tabOf; rw [if_neg hp]
    have hb : boundOf mx p = mx := by unfold boundOf; rw [if_neg hp]
    have := hc true
    rw [ht, hb] at this
    rw [hu, List.nil_append, ht, hb]
    have e1 : (sayOne T mx p).tab = tabAll mx p.flds T := by show tabAll (boundOf mx p) p.flds (tabOf mx T p) = _; rw [ht, hb]
    have e2 : (sayOne T mx p).mx = mx := hb
    rw [e1, e2]; exact this
theorem say_len {T : Tab} {mx n : Nat} (p : PartD) (h : StOk T mx n) (hl : n + fcost p.flds ≤ 1048576) (hne : p.flds ≠ []) : 0 < (sayOne T mx p).bytes.length ∧ (sayOne T mx p).bytes.length ≤ 30000000 := by
  have h1 := encAll_ne (boundOf mx p) (tabOf mx T p) hne
  have h2 := encAll_len (boundOf mx p) p.flds (tabOf mx T p) n (tabOf_ok h p) hl
  have h3 := updB_len (updOf p) (boundOf_le h.ok.mx p)
  show 0 < (updB (updOf p) (boundOf mx p) ++ encAll (boundOf mx p) p.flds (tabOf mx T p)).length ∧ (updB (updOf p) (boundOf mx p) ++ encAll (boundOf mx p) p.flds (tabOf mx T p)).length ≤ 30000000
  rw [List.length_append]; omega
end Go.Proofs.YtoceghdnipjkfaaDoor
