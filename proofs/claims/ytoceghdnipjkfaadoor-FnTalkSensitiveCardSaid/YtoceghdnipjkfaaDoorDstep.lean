/-
  One step of the decoder over what the encoder wrote.
-/
import Derived.Test.YtoceghdnipjkfaaDoorDpar
import Derived.Test.YtoceghdnipjkfaaDoorDlit
import Derived.Test.YtoceghdnipjkfaaDoorDisp
import Derived.Test.YtoceghdnipjkfaaDoorPlain
namespace Go.Proofs.YtoceghdnipjkfaaDoor
open Go.RowKit
attribute [local irreducible] st

theorem first_byte {w : World} {g : Nat} {bv : Value} {n first i : Nat} {rest : List UInt8} (hn : n ≤ 7) (hf2 : first + 2 ^ n ≤ 256) (hr : RdV w g bv (orF first (vi n i) ++ rest)) :
    ∃ off N cap x, bv = .slice (some ⟨g, off, none⟩) N cap ∧ 0 < N ∧ x < 2 ^ n ∧ w.cell? ⟨g, off, none⟩ = some (.int .u8 (x + first : Nat)) := by
  obtain ⟨b, r, hvi, hb⟩ := vi_cons n i
  have hb := hb hn
  rw [hvi] at hr
  obtain ⟨off, cap, rfl, hle, hm, hrd⟩ := hr
  have hrd' : Rd w g off (b8 (b.toNat + first) :: (r ++ rest)) := hrd
  have c0 := hrd'.head
  rw [b8_int (by omega)] at c0
  exact ⟨off, _, cap, b.toNat, rfl, by simp [orF], hb, c0⟩

theorem enc_lit {f : Fld} {T : Tab} {mx i : Nat} (h : searchAll f T = (i, false)) :
    encField f T mx = orF (typeByte (should f mx) f.sens) (vi (if should f mx = true then 6 else 4) i) ++ litBytes i f ∧ nextTab f T mx = litTab (should f mx) f T mx := by
  refine ⟨?_, ?_⟩
  · unfold encField litBytes
    rw [h]
    simp only [Bool.false_eq_true, if_false]
    by_cases hi : i = 0
    · subst hi
      rw [if_pos rfl, if_pos rfl]
      have hv : vi (if should f mx = true then 6 else 4) 0 = [b8 0] := by
        unfold vi; rw [if_pos]; split <;> decide
      rw [hv]
      simp [orF, b8]
    · rw [if_neg hi, if_neg hi]
  · unfold nextTab litTab
    rw [h]
    simp
theorem should_sens {f : Fld} {mx : Nat} (h : should f mx = true) : f.sens = false := by
  unfold should at h; simp at h; exact h.1
theorem decRet_nil {w : World} {d : Nat} {T' : Tab} {v : Value} {m1 m2 mx' : Nat} {first : Bool} {hb : Nat} {hv : Value} {l' : List Fld} {g : Nat} {rest : List UInt8} : ∀ (e : Ending) (w' : World), DecRet w d T' v m1 m2 mx' first hb hv l' g rest e w' → e = .returned .nilIface := by
  rintro e w' ⟨_, _, _, rfl, _⟩; rfl

theorem parse_field (d : Nat) (T : Tab) (v : Value) (m1 m2 mx : Nat) (bv : Value) (first : Bool) (hb : Nat) (hv : Value) (l : List Fld) (g : Nat) (f : Fld) (rest : List UInt8) (w : World)
    (h : DecRep w d T v m1 m2 mx bv first hb hv l) (hr : RdV w g bv (encField f T mx ++ rest)) (hg : g ∉ decSet d v m1 m2 hb hv) (hgl : g < w.heap.size) (hgb : Glob w)
    (hok : TOk T mx) (hl : l.length ≤ 4000000) (hfs : f.name.size + f.value.size ≤ 2100000) (hrl : rest.length ≤ 8000000000) :
    Calls Tryd.prog 39 #[.pointer (some ⟨d, 0, none⟩)] w (DecRet w d (nextTab f T mx) v m1 m2 mx first hb hv (l ++ [f]) g rest) := by
  have c11 := h.tab.blk.cell 11 rfl
  have lit : ∀ i, searchAll f T = (i, false) → i ≤ 61 + T.ents.length → (i ≠ 0 → ∃ gf, fieldAt T i = some gf ∧ gf.name = f.name) → Calls Tryd.prog 39 #[.pointer (some ⟨d, 0, none⟩)] w (DecRet w d (nextTab f T mx) v m1 m2 mx first hb hv (l ++ [f]) g rest) := by
    intro i hs h1 hf
    obtain ⟨he, hn⟩ := enc_lit (mx := mx) hs
    rw [he, List.append_assoc] at hr
    rw [hn]
    cases hix : should f mx
    · rw [hix] at hr
      cases hse : f.sens
      · rw [hse] at hr
        obtain ⟨off, N, cap, x, rfl, hN, hx, c0⟩ := first_byte (n := 4) (first := 0) (by omega) (by decide) hr
        refine disp_not d g off N cap (x + 0) w _ decRet_nil c11 c0 hN (by omega) (by omega) ?_
        exact parse_lit d T v m1 m2 mx _ first hb hv l g 4 0 i 1 false f rest w h hr hg hgl hgb (.inl rfl) (by decide) (by decide) rfl (by rw [hse]; rfl) (fun e => by cases e) hok h1 hf hl hfs hrl
      · rw [hse] at hr
        obtain ⟨off, N, cap, x, rfl, hN, hx, c0⟩ := first_byte (n := 4) (first := 16) (by omega) (by decide) hr
        refine disp_never d g off N cap (x + 16) w _ decRet_nil c11 c0 hN (by omega) (by omega) ?_
        exact parse_lit d T v m1 m2 mx _ first hb hv l g 4 16 i 2 false f rest w h hr hg hgl hgb (.inl rfl) (by decide) (by decide) rfl (by rw [hse]; rfl) (fun e => by cases e) hok h1 hf hl hfs hrl
    · have hse := should_sens hix
      rw [hix, hse] at hr
      obtain ⟨off, N, cap, x, rfl, hN, hx, c0⟩ := first_byte (n := 6) (first := 64) (by omega) (by decide) hr
      refine disp_inc d g off N cap (x + 64) w _ decRet_nil c11 c0 hN (by omega) (by omega) ?_
      exact parse_lit d T v m1 m2 mx _ first hb hv l g 6 64 i 0 true f rest w h hr hg hgl hgb (.inr rfl) (by decide) (by decide) rfl (by rw [hse]; rfl) (fun _ => hse) hok h1 hf hl hfs hrl
  rcases found_all f T with hs | ⟨i, mt, gf, hs, F⟩
  · exact lit 0 hs (Nat.zero_le _) (fun h => absurd rfl h)
  · cases mt
    · exact lit i hs F.hi (fun _ => ⟨gf, F.at_, F.name⟩)
    · have he : encField f T mx = orF 128 (vi 7 i) := by unfold encField; rw [hs]; rfl
      have hn : nextTab f T mx = T := by unfold nextTab; rw [hs]; rfl
      rw [he] at hr
      rw [hn]
      obtain ⟨off, N, cap, x, rfl, hN, hx, c0⟩ := first_byte (n := 7) (first := 128) (by omega) (by decide) hr
      refine disp_idx d g off N cap (x + 128) w _ decRet_nil c11 c0 hN (by omega) (by omega) ?_
      have hfe : (⟨gf.name, gf.value, false⟩ : Fld) = f := by
        have a1 := F.name; have a2 := F.value rfl; have a3 := F.sens rfl
        cases f; simp at a1 a2 a3 ⊢; exact ⟨a1, a2, a3⟩
      have := parse_idx d T v m1 m2 mx _ first hb hv l g i gf rest w h hr hg hgl (by have := hok.len; omega) F.lo F.hi F.at_ hl
      rw [hfe] at this
      exact this

/-- what the decoder can read from here, and what comes of it -/
inductive Can : List UInt8 → Tab → Nat → List Fld → Bool → Tab → Nat → List Fld → Prop
  | done (T : Tab) (mx : Nat) (l : List Fld) (first : Bool) : Can [] T mx l first T mx l
  | size {n : Nat} {rest : List UInt8} {T : Tab} {mx : Nat} {l : List Fld} {T' : Tab} {mx' : Nat} {l' : List Fld} (hn : n ≤ 4096) (hok : TOk T mx) (h : Can rest (fit n T) n l false T' mx' l') : Can (orF 32 (vi 5 n) ++ rest) T mx l true T' mx' l'
  | field {f : Fld} {rest : List UInt8} {T : Tab} {mx : Nat} {l : List Fld} {first : Bool} {T' : Tab} {mx' : Nat} {l' : List Fld} (hok : TOk T mx) (hfs : f.name.size + f.value.size ≤ 2100000) (hl : l.length ≤ 4000000) (hrl : rest.length ≤ 8000000000)
      (h : Can rest (nextTab f T mx) mx (l ++ [f]) false T' mx' l') : Can (encField f T mx ++ rest) T mx l first T' mx' l'
def StepRet (n : Nat) (T' : Tab) (mx' : Nat) (l' : List Fld) (w : World) (d : Nat) (v : Value) (m1 m2 : Nat) (first : Bool) (hb : Nat) (hv : Value) (g : Nat) (e : Ending) (w' : World) : Prop :=
  ∃ rest T1 mx1 l1, Can rest T1 mx1 l1 false T' mx' l' ∧ rest.length < n ∧ DecRet w d T1 v m1 m2 mx1 first hb hv l1 g rest e w'
theorem parse_any (d : Nat) (T : Tab) (v : Value) (m1 m2 mx : Nat) (bv : Value) (first : Bool) (hb : Nat) (hv : Value) (l : List Fld) (g : Nat) (bytes : List UInt8) (T' : Tab) (mx' : Nat) (l' : List Fld) (w : World)
    (h : DecRep w d T v m1 m2 mx bv first hb hv l) (hr : RdV w g bv bytes) (hg : g ∉ decSet d v m1 m2 hb hv) (hgl : g < w.heap.size) (hgb : Glob w) (hc : Can bytes T mx l first T' mx' l') (hne : 0 < bytes.length) :
    Calls Tryd.prog 39 #[.pointer (some ⟨d, 0, none⟩)] w (StepRet bytes.length T' mx' l' w d v m1 m2 first hb hv g) := by
  cases hc with
  | done => simp at hne
  | @size n rest T mx l T' mx' l' hn hok hc =>
    have c11 := h.tab.blk.cell 11 rfl
    obtain ⟨off, N, cap, x, rfl, hN, hx, c0⟩ := first_byte (n := 5) (first := 32) (by omega) (by decide) hr
    refine (disp_size d g off N cap (x + 32) w _ decRet_nil c11 c0 hN (by omega) (by omega) (parse_size d T v m1 m2 mx _ hb hv l g n rest w h hr hg hn hok)).mono ?_
    intro e w' hd
    refine ⟨rest, _, _, _, hc, ?_, hd⟩
    obtain ⟨b, r, hvi, _⟩ := vi_cons 5 n
    rw [List.length_append, orF_len, hvi]; simp
  | @field f rest T mx l first T' mx' l' hok hfs hl hrl hc =>
    refine (parse_field d T v m1 m2 mx bv first hb hv l g f rest w h hr hg hgl hgb hok hl hfs hrl).mono ?_
    intro e w' hd
    refine ⟨rest, _, _, _, hc, ?_, hd⟩
    have := encField_ne f T mx
    rw [List.length_append]; omega
end Go.Proofs.YtoceghdnipjkfaaDoor
