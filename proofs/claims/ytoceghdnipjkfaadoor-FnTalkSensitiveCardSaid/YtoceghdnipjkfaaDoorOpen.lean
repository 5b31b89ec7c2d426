/-
  A list of parts, opened.
-/
import Derived.Test.YtoceghdnipjkfaaDoorDoor
import Derived.Test.YtoceghdnipjkfaaDoorGuard
import Derived.Deep.Strs
namespace Go.Proofs.YtoceghdnipjkfaaDoor
open Go.ChangeShapes Go.WideShapes Go.ChangeAt Go.RowKit Go.WideElems Go.Joins Go.Deep
set_option maxRecDepth 100000

theorem cells23 : Tryd.prog.cellsOf 23 = 3 := by kernel_rfl
theorem cells25 : Tryd.prog.cellsOf 25 = 1 := by kernel_rfl
theorem cells27 : Tryd.prog.cellsOf 27 = 2 := by kernel_rfl
theorem cells3 : Tryd.prog.cellsOf 3 = 1 := by kernel_rfl
theorem cells4 : Tryd.prog.cellsOf 4 = 1 := by kernel_rfl

theorem list_of {α : Type} {P : Nat → α → Prop} : ∀ (n : Nat), (∀ i, i < n → ∃ a, P i a) → ∃ l : List α, l.length = n ∧ ∀ i a, l[i]? = some a → P i a
  | 0, _ => ⟨[], rfl, fun i a h => by simp at h⟩
  | n + 1, h => by
    obtain ⟨l, hl, hp⟩ := list_of n fun i hi => h i (Nat.lt_succ_of_lt hi)
    obtain ⟨a, ha⟩ := h n (Nat.lt_succ_self n)
    refine ⟨l ++ [a], by simp [hl], fun i b hb => ?_⟩
    by_cases hi : i < l.length
    · rw [List.getElem?_append_left hi] at hb; exact hp i b hb
    · have : i = l.length := by have := (List.getElem?_eq_some_iff.1 hb).1; simp at this; omega
      subst this
      simp at hb
      subst hb
      rw [hl]; exact ha

section
variable {H : Type} {enc : TypeId × Value → H} {W : World} {base : Nat} {sp : Nat → Bool} {held : Bool}

theorem fld_of_trod {n : Nat} {a : Addr} {y : DataW H × List MemPlace} (h : (W.cells? base a 3).bind (DataW.trod enc Tryd.prog W base sp held n 23) = some y) :
    ∃ (b o : Nat) (f : Fld), a = ⟨b, o, none⟩ ∧ W.cell? ⟨b, o, none⟩ = some (.string f.name) ∧ W.cell? ⟨b, o + 1, none⟩ = some (.string f.value) ∧ W.cell? ⟨b, o + 2, none⟩ = some (.bool f.sens) ∧ f.name.size ≤ 9223372036854775807 ∧ f.value.size ≤ 9223372036854775807 := by
  obtain ⟨cs, hc, ht⟩ := Option.bind_eq_some_iff.1 h
  obtain ⟨_, hl, hat⟩ := World.cells?_some hc
  obtain ⟨c0, c1, c2, rfl⟩ : ∃ c0 c1 c2, cs = [c0, c1, c2] := by
    match cs, hl with
    | [c0, c1, c2], _ => exact ⟨_, _, _, rfl⟩
  obtain ⟨y0, y1, y2, m, _, _, h0, h1, h2⟩ := trod_struct3 Tryd.underlying23 ht
  simp only [cells9, cells4, List.drop_zero, List.drop_succ_cons, List.take_succ_cons, List.take_zero] at h0 h1 h2
  obtain ⟨s0, e0, _, z0⟩ := DataW.trod_string Tryd.underlying9 h0
  obtain ⟨s1, e1, _, z1⟩ := DataW.trod_string Tryd.underlying9 h1
  obtain ⟨b2, e2, _⟩ := DataW.trod_bool Tryd.underlying4 h2
  obtain rfl : c0 = .string s0 := by simpa using e0
  obtain rfl : c1 = .string s1 := by simpa using e1
  obtain rfl : c2 = .bool b2 := by simpa using e2
  obtain ⟨b, o, sp⟩ := a
  have a0 := hat 0 (by omega)
  have a1 := hat 1 (by omega)
  have a2 := hat 2 (by omega)
  obtain rfl : sp = none := World.cell?_spot (w := W) (a := (⟨b, o, sp⟩ : Addr).add 0) (v := .string s0) (by simpa using a0)
  exact ⟨b, o, ⟨s0, s1, b2⟩, rfl, by simpa [Addr.add] using a0, by simpa [Addr.add] using a1, by simpa [Addr.add] using a2, Nat.le_trans z0 (by decide), Nat.le_trans z1 (by decide)⟩

theorem flds_of_trod {fuel : Nat} {cs : List Value} {y : DataW H × List MemPlace} (h : DataW.trod enc Tryd.prog W base sp held fuel 25 cs = some y) : ∃ v l, cs = [v] ∧ FldsAt W v l ∧ FOk l := by
  rcases DataW.trod_slice Tryd.underlying25 h with ⟨rfl, _⟩ | ⟨a, len, cap, elems, rest, n, _, rfl, _, _, hlc, hcm, hel, hi, _⟩
  · exact ⟨_, [], rfl, ⟨none, 0, rfl, fun j f hj => by simp at hj⟩, by simp, fun f hf => by simp at hf⟩
  · rw [cells23] at hi
    have step : ∀ i, i < len → ∃ f : Fld, (∃ b o, (some a : Option Addr) = some ⟨b, o, none⟩ ∧ W.cell? ⟨b, o + i * 3, none⟩ = some (.string f.name) ∧ W.cell? ⟨b, o + i * 3 + 1, none⟩ = some (.string f.value) ∧ W.cell? ⟨b, o + i * 3 + 2, none⟩ = some (.bool f.sens)) ∧ f.name.size ≤ 9223372036854775807 ∧ f.value.size ≤ 9223372036854775807 := by
      intro i hlt
      have h0 := hi 0 (by omega)
      rw [List.getElem?_eq_getElem (by omega)] at h0
      obtain ⟨b, o, _, ha, _⟩ := fld_of_trod h0
      have ha0 : a = ⟨b, o, none⟩ := by rw [Nat.zero_mul] at ha; exact ha
      subst ha0
      clear ha h0
      have h1 := hi i hlt
      rw [List.getElem?_eq_getElem (by omega), Addr.add_lit] at h1
      obtain ⟨b', o', f, ha, c0, c1, c2, z0, z1⟩ := fld_of_trod h1
      cases ha
      exact ⟨f, ⟨_, _, rfl, c0, c1, c2⟩, z0, z1⟩
    obtain ⟨l, hl, hp⟩ := list_of len step
    subst hl
    refine ⟨_, l, rfl, ⟨_, cap, rfl, fun j f hj => (hp j f hj).1⟩, Nat.le_trans (Nat.le_trans hlc hcm) (by decide), fun f hf => ?_⟩
    obtain ⟨j, hj⟩ := List.getElem?_of_mem hf
    exact (hp j f hj).2

theorem part_of_trod {n : Nat} {a : Addr} {y : DataW H × List MemPlace} (h : (W.cells? base a 2).bind (DataW.trod enc Tryd.prog W base sp held n 27) = some y) :
    ∃ (b o : Nat) (fv : Value) (p : PartD), a = ⟨b, o, none⟩ ∧ W.cell? ⟨b, o, none⟩ = some (.int .i64 p.size) ∧ W.cell? ⟨b, o + 1, none⟩ = some fv ∧ FldsAt W fv p.flds ∧ (-9223372036854775808 ≤ p.size ∧ p.size ≤ 9223372036854775807) ∧ FOk p.flds := by
  obtain ⟨cs, hc, ht⟩ := Option.bind_eq_some_iff.1 h
  obtain ⟨_, hl, hat⟩ := World.cells?_some hc
  obtain ⟨c0, c1, rfl⟩ : ∃ c0 c1, cs = [c0, c1] := by
    match cs, hl with
    | [c0, c1], _ => exact ⟨_, _, rfl⟩
  obtain ⟨y0, y1, m, _, _, h0, h1⟩ := trod_struct2 Tryd.underlying27 ht
  simp only [cells3, cells25, List.drop_zero, List.drop_succ_cons, List.take_succ_cons, List.take_zero] at h0 h1
  obtain ⟨k, e0, _, z0⟩ := DataW.trod_int Tryd.underlying3 h0
  obtain ⟨fv, l, e1, hf, hok⟩ := flds_of_trod h1
  obtain rfl : c0 = .int .i64 k := by simpa using e0
  obtain rfl : c1 = fv := by simpa using e1
  obtain ⟨b, o, sp⟩ := a
  have a0 := hat 0 (by omega)
  have a1 := hat 1 (by omega)
  obtain rfl : sp = none := World.cell?_spot (w := W) (a := (⟨b, o, sp⟩ : Addr).add 0) (v := .int .i64 k) (by simpa using a0)
  refine ⟨b, o, c1, ⟨k, l⟩, rfl, by simpa [Addr.add] using a0, by simpa [Addr.add] using a1, hf, ?_, hok⟩
  simp only [Lit.wf, Bool.and_eq_true, decide_eq_true_eq] at z0
  exact ⟨Int.le_trans (by decide) z0.1, Int.le_trans z0.2 (by decide)⟩

theorem parts_of_trod {fuel : Nat} {cs : List Value} {y : DataW H × List MemPlace} (h : DataW.trod enc Tryd.prog W base sp held fuel 30 cs = some y) : ∃ v l, cs = [v] ∧ PartsAt W v l ∧ PsOk l := by
  rcases DataW.trod_slice Tryd.underlying30 h with ⟨rfl, _⟩ | ⟨a, len, cap, elems, rest, n, _, rfl, _, _, hlc, hcm, hel, hi, _⟩
  · exact ⟨_, [], rfl, ⟨none, 0, rfl, fun j f hj => by simp at hj⟩, by simp, fun f hf => by simp at hf, fun f hf => by simp at hf⟩
  · rw [cells27] at hi
    have step : ∀ i, i < len → ∃ q : PartD, (∃ b o fv, (some a : Option Addr) = some ⟨b, o, none⟩ ∧ W.cell? ⟨b, o + i * 2, none⟩ = some (.int .i64 q.size) ∧ W.cell? ⟨b, o + i * 2 + 1, none⟩ = some fv ∧ FldsAt W fv q.flds) ∧ (-9223372036854775808 ≤ q.size ∧ q.size ≤ 9223372036854775807) ∧ FOk q.flds := by
      intro i hlt
      have h0 := hi 0 (by omega)
      rw [List.getElem?_eq_getElem (by omega)] at h0
      obtain ⟨b, o, _, _, ha, _⟩ := part_of_trod h0
      have ha0 : a = ⟨b, o, none⟩ := by rw [Nat.zero_mul] at ha; exact ha
      subst ha0
      clear ha h0
      have h1 := hi i hlt
      rw [List.getElem?_eq_getElem (by omega), Addr.add_lit] at h1
      obtain ⟨b', o', fv, q, ha, c0, c1, c2, z0, z1⟩ := part_of_trod h1
      cases ha
      exact ⟨q, ⟨_, _, fv, rfl, c0, c1, c2⟩, z0, z1⟩
    obtain ⟨l, hl, hp⟩ := list_of len step
    subst hl
    refine ⟨_, l, rfl, ⟨_, cap, rfl, fun j f hj => (hp j f hj).1⟩, Nat.le_trans (Nat.le_trans hlc hcm) (by decide), fun f hf => ?_, fun f hf => ?_⟩
    · obtain ⟨j, hj⟩ := List.getElem?_of_mem hf
      exact (hp j f hj).2.1
    · obtain ⟨j, hj⟩ := List.getElem?_of_mem hf
      exact (hp j f hj).2.2
end
end Go.Proofs.YtoceghdnipjkfaaDoor
