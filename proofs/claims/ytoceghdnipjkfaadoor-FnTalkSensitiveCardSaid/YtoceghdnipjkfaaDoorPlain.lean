/-
  What the encoder finds in its two tables is what the decoder's look gives; a part's fields, one by one.
-/
import Derived.Test.YtoceghdnipjkfaaDoorSend
import Derived.Test.YtoceghdnipjkfaaDoorAt
namespace Go.Proofs.YtoceghdnipjkfaaDoor
open Go.RowKit
attribute [local irreducible] st

theorem lastId_get (p : Fld → Bool) : ∀ (l : List Fld) (i : Nat), 1 ≤ i → lastId p l i ≠ 0 → ∃ k f, l[k]? = some f ∧ p f = true ∧ lastId p l i = i + k
  | [], _, _, h => absurd rfl h
  | g :: r, i, hi, h => by
    simp only [lastId] at h ⊢
    by_cases hr : lastId p r (i + 1) ≠ 0
    · rw [if_pos hr] at h ⊢
      obtain ⟨k, f, h1, h2, h3⟩ := lastId_get p r (i + 1) (by omega) hr
      exact ⟨k + 1, f, by simpa using h1, h2, by omega⟩
    · rw [if_neg hr] at h ⊢
      by_cases hp : p g = true
      · rw [if_pos hp]
        exact ⟨0, g, rfl, hp, rfl⟩
      · rw [if_neg hp] at h; exact absurd rfl h
theorem searchRes_cases (f : Fld) (i1 i2 : Nat) (g : Nat → Nat) :
    (f.sens = false ∧ i2 ≠ 0 ∧ searchRes f i1 i2 g = (g i2, true)) ∨ (i1 ≠ 0 ∧ searchRes f i1 i2 g = (g i1, false)) ∨ searchRes f i1 i2 g = (0, false) := by
  unfold searchRes
  by_cases h : f.sens = false ∧ i2 ≠ 0
  · rw [if_pos h]; exact .inl ⟨h.1, h.2, rfl⟩
  · rw [if_neg h]
    by_cases h1 : i1 ≠ 0
    · rw [if_pos h1]; exact .inr (.inl ⟨h1, rfl⟩)
    · rw [if_neg h1]; exact .inr (.inr rfl)

/-- what a number found says -/
structure Found (f : Fld) (T : Tab) (i : Nat) (mt : Bool) (g : Fld) : Prop where
  lo : 1 ≤ i
  hi : i ≤ 61 + T.ents.length
  at_ : fieldAt T i = some g
  name : g.name = f.name
  value : mt = true → g.value = f.value
  sens : mt = true → f.sens = false
theorem found_st (f : Fld) (T : Tab) : (searchSt f = (0, false)) ∨ ∃ i mt g, searchSt f = (i, mt) ∧ Found f T i mt g := by
  have hl := st_len
  have key : ∀ (p : Fld → Bool), lastId p st 1 ≠ 0 → ∃ g, p g = true ∧ 1 ≤ lastId p st 1 ∧ lastId p st 1 ≤ 61 ∧ fieldAt T (lastId p st 1) = some g := by
    intro p hp
    obtain ⟨k, g, h1, h2, h3⟩ := lastId_get p st 1 (by omega) hp
    have hk : k < st.length := (List.getElem?_eq_some_iff.1 h1).1
    refine ⟨g, h2, by omega, by omega, ?_⟩
    unfold fieldAt
    rw [if_pos (by omega), h3, show 1 + k - 1 = k from by omega]; exact h1
  rcases searchRes_cases f (lastId (hasName f.name) st 1) (lastId (hasPair (f.name, f.value)) st 1) (fun i => i) with ⟨h1, h2, h3⟩ | ⟨h1, h3⟩ | h3
  · obtain ⟨g, a, b, c, d⟩ := key _ h2
    have a' : g.name = f.name ∧ g.value = f.value := of_decide_eq_true a
    exact .inr ⟨_, _, g, h3, b, by omega, d, a'.1, fun _ => a'.2, fun _ => h1⟩
  · obtain ⟨g, a, b, c, d⟩ := key _ h1
    exact .inr ⟨_, _, g, h3, b, by omega, d, of_decide_eq_true a, (fun h => by cases h), (fun h => by cases h)⟩
  · exact .inl h3
theorem found_dyn (f : Fld) (T : Tab) : (searchDyn f T = (0, false)) ∨ ∃ i mt g, searchDyn f T = (i, mt) ∧ i ≠ 0 ∧ Found f T (i + 61) mt g := by
  have key : ∀ (p : Fld → Bool), lastId p T.ents (T.ev + 1) ≠ 0 → ∃ g, p g = true ∧ 1 ≤ T.ev + T.ents.length + 1 - lastId p T.ents (T.ev + 1) ∧ T.ev + T.ents.length + 1 - lastId p T.ents (T.ev + 1) ≤ T.ents.length ∧ fieldAt T (T.ev + T.ents.length + 1 - lastId p T.ents (T.ev + 1) + 61) = some g := by
    intro p hp
    obtain ⟨k, g, h1, h2, h3⟩ := lastId_get p T.ents (T.ev + 1) (by omega) hp
    have hk : k < T.ents.length := (List.getElem?_eq_some_iff.1 h1).1
    refine ⟨g, h2, by omega, by omega, ?_⟩
    unfold fieldAt
    rw [if_neg (by omega), h3, show T.ents.length - (T.ev + T.ents.length + 1 - (T.ev + 1 + k) + 61 - 61) = k from by omega]; exact h1
  rcases searchRes_cases f (lastId (hasName f.name) T.ents (T.ev + 1)) (lastId (hasPair (f.name, f.value)) T.ents (T.ev + 1)) (fun i => T.ev + T.ents.length + 1 - i) with ⟨h1, h2, h3⟩ | ⟨h1, h3⟩ | h3
  · obtain ⟨g, a, b, c, d⟩ := key _ h2
    have a' : g.name = f.name ∧ g.value = f.value := of_decide_eq_true a
    exact .inr ⟨_, _, g, h3, by omega, by omega, by omega, d, a'.1, fun _ => a'.2, fun _ => h1⟩
  · obtain ⟨g, a, b, c, d⟩ := key _ h1
    exact .inr ⟨_, _, g, h3, by omega, by omega, by omega, d, of_decide_eq_true a, (fun h => by cases h), (fun h => by cases h)⟩
  · exact .inl h3
theorem found_all (f : Fld) (T : Tab) : (searchAll f T = (0, false)) ∨ ∃ i mt g, searchAll f T = (i, mt) ∧ Found f T i mt g := by
  unfold searchAll
  rcases found_st f T with h | ⟨i, mt, g, h, F⟩
  · rw [h]
    simp only [Bool.false_eq_true, if_false, true_and]
    rcases found_dyn f T with h2 | ⟨j, mt, g, h2, hj, F⟩
    · rw [h2]; left; simp
    · rw [h2]; right
      refine ⟨j + 61, mt, g, ?_, F⟩
      simp [hj]
  · rw [h]
    cases mt
    · simp only [Bool.false_eq_true, if_false]
      rcases found_dyn f T with h2 | ⟨j, mt, g2, h2, hj, F2⟩
      · rw [h2]; right
        refine ⟨i, false, g, ?_, F⟩
        simp
      · rw [h2]; right
        have hi := F.lo
        cases mt
        · refine ⟨i, false, g, ?_, F⟩
          simp; omega
        · exact ⟨j + 61, true, g2, by simp, F2⟩
    · right; exact ⟨i, true, g, by simp, F⟩

/-- a list of fields written, and the table behind it -/
noncomputable def encAll (mx : Nat) : List Fld → Tab → List UInt8
  | [], _ => []
  | f :: r, T => encField f T mx ++ encAll mx r (nextTab f T mx)
noncomputable def tabAll (mx : Nat) : List Fld → Tab → Tab
  | [], T => T
  | f :: r, T => tabAll mx r (nextTab f T mx)
theorem encAll_append (mx : Nat) : ∀ (a b : List Fld) (T : Tab), encAll mx (a ++ b) T = encAll mx a T ++ encAll mx b (tabAll mx a T)
  | [], _, _ => rfl
  | f :: r, b, T => by simp only [List.cons_append, encAll, tabAll, encAll_append mx r b, List.append_assoc]
theorem tabAll_append (mx : Nat) : ∀ (a b : List Fld) (T : Tab), tabAll mx (a ++ b) T = tabAll mx b (tabAll mx a T)
  | [], _, _ => rfl
  | f :: r, b, T => by simp only [List.cons_append, tabAll, tabAll_append mx r b]

theorem fit_len (mx : Nat) (T : Tab) : (fit mx T).ents.length + (fit mx T).ev = T.ents.length + T.ev := by
  have := evn_le mx T.ents
  unfold fit; simp; omega
theorem nextTab_len (f : Fld) (T : Tab) (mx : Nat) : (nextTab f T mx).ents.length + (nextTab f T mx).ev ≤ T.ents.length + T.ev + 1 := by
  unfold nextTab
  split
  · omega
  · split
    · rw [fit_len]; simp; omega
    · omega
theorem FBound.fit {T : Tab} (h : FBound T.ents) (mx : Nat) : FBound (fit mx T).ents := fun f hf => h f (List.mem_of_mem_drop hf)
theorem nextTab_ok {f : Fld} {T : Tab} {mx : Nat} (h : TOk T mx) (hf : f.name.size + f.value.size ≤ 4000000) (hl : T.ents.length + T.ev + 1 < 4294967000) : TOk (nextTab f T mx) mx := by
  have hn := nextTab_len f T mx
  refine ⟨by omega, ?_, h.mx, ?_⟩
  · unfold nextTab
    split
    · exact h.sz
    · split
      · exact tsz_fit mx _
      · exact h.sz
  · unfold nextTab
    split
    · exact h.fb
    · split
      · exact FBound.fit (T := ⟨T.ents ++ [f], T.ev⟩) (by intro g hg; simp at hg; rcases hg with hg | rfl; exact h.fb g hg; exact hf) mx
      · exact h.fb
theorem fit_ok {T : Tab} {mx mx' : Nat} (h : TOk T mx) (hm : mx' ≤ 4096) : TOk (fit mx' T) mx' :=
  ⟨by rw [fit_len]; exact h.len, tsz_fit mx' _, hm, FBound.fit h.fb mx'⟩
theorem fit_id {T : Tab} {mx : Nat} (h : tsz T.ents ≤ mx) : fit mx T = T := by
  unfold fit; rw [evn_zero h]; rfl
theorem encField_ne (f : Fld) (T : Tab) (mx : Nat) : 0 < (encField f T mx).length := by
  have hv : ∀ n i, 0 < (vi n i).length := by intro n i; obtain ⟨b, r, h, _⟩ := vi_cons n i; rw [h]; simp
  unfold encField
  split
  · rw [orF_len]; exact hv _ _
  · split
    · simp
    · rw [List.length_append, orF_len]; have := hv (if should f mx = true then 6 else 4) (searchAll f T).1; omega
/-- an entry of the table behind is one of before, or the field, as not sensitive -/
theorem nextTab_mem {f g : Fld} {T : Tab} {mx : Nat} (h : g ∈ (nextTab f T mx).ents) : g ∈ T.ents ∨ (g = f ∧ f.sens = false) := by
  unfold nextTab at h
  split at h
  · exact .inl h
  · split at h
    · rename_i hs
      have := List.mem_of_mem_drop h
      simp at this
      rcases this with h' | h'
      · exact .inl h'
      · right
        refine ⟨h', ?_⟩
        unfold should at hs; simp at hs; exact hs.1
    · exact .inl h
end Go.Proofs.YtoceghdnipjkfaaDoor
