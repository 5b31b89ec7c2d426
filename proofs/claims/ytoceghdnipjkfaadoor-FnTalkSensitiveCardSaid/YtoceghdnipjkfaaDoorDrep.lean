/-
  The decoder as it lies in memory, and what its steps leave of it.
-/
import Derived.Test.YtoceghdnipjkfaaDoorEmit
namespace Go.Proofs.YtoceghdnipjkfaaDoor
open Go.RowKit

/-- the decoder's cells behind the table -/
def decRest (sz mx hb : Nat) (bv : Value) (first : Bool) : List Value :=
  [.int .u32 sz, .int .u32 mx, .int .u32 4096, emV hb, .bool true, .int .i64 0, bv, .slice none 0 0, .int .i64 0, .int .i8 0, .bool first]
structure DecRep (w : World) (d : Nat) (T : Tab) (v : Value) (m1 m2 mx : Nat) (bv : Value) (first : Bool) (hb : Nat) (hv : Value) (l : List Fld) : Prop where
  tab : TabRep w d T v m1 m2 (decRest (tsz T.ents) mx hb bv first) 80
  box : Blk w hb [hv] 46
  row : w.ownsRow 0 50 3 hv l.length (l.flatMap fc)
  vh : ∀ g, v.ownBlock = some g → hv.ownBlock ≠ some g
def decSet (d : Nat) (v : Value) (m1 m2 hb : Nat) (hv : Value) : List Nat := hb :: tset d v m1 m2 ++ hv.ownBlock.toList

theorem TabRep.setRest {w : World} {b : Nat} {T : Tab} {v : Value} {m1 m2 : Nat} {rest : List Value} {ty : TypeId} (h : TabRep w b T v m1 m2 rest ty) (i : Nat) (x : Value) :
    TabRep (w.setCell ⟨b, i + 5, none⟩ x) b T v m1 m2 (rest.set i x) ty := by
  have kk : Kept [b] w (w.setCell ⟨b, i + 5, none⟩ x) := (Kept.refl _ _).setCell (by simp) _
  obtain ⟨al1, al2, A1, A2, LL⟩ := h.maps
  exact ⟨h.blk.set (i + 5) x, ownsRow_kept h.row kk (by intro g hg; simp; intro e'; exact h.vb (by rw [hg, e'])), ⟨al1, al2, A1.kept kk (by simpa using fun e' => h.b_m1 e'.symm), A2.kept kk (by simpa using fun e' => h.b_m2 e'.symm), LL⟩, h.ne, h.vb⟩

section
variable {w w1 : World} {d : Nat} {T : Tab} {v : Value} {m1 m2 mx : Nat} {bv : Value} {first : Bool} {hb : Nat} {hv : Value} {l : List Fld}
theorem DecRep.kept {S : List Nat} (h : DecRep w d T v m1 m2 mx bv first hb hv l) (hk : Kept S w w1) (hd : ∀ x, x ∈ decSet d v m1 m2 hb hv → x ∉ S) : DecRep w1 d T v m1 m2 mx bv first hb hv l :=
  ⟨h.tab.kept hk (fun x hx => hd x (by simp [decSet, hx])), h.box.kept hk (hd hb (by simp [decSet])), ownsRow_kept h.row hk (fun g hg => hd g (by simp [decSet, hg])), h.vh⟩
theorem DecRep.kept0 (h : DecRep w d T v m1 m2 mx bv first hb hv l) (hk : Kept [] w w1) : DecRep w1 d T v m1 m2 mx bv first hb hv l := h.kept hk (by simp)
theorem DecRep.lt (h : DecRep w d T v m1 m2 mx bv first hb hv l) : ∀ x, x ∈ decSet d v m1 m2 hb hv → x < w.heap.size := by
  intro x hx
  obtain ⟨al1, al2, a1, a2, _⟩ := h.tab.maps
  simp [decSet, tset] at hx
  rcases hx with hx | hx | hx | hx | hx | hx
  · rw [hx]; exact h.box.lt
  · rw [hx]; exact h.tab.blk.lt
  · rw [hx]; exact a1.lt
  · rw [hx]; exact a2.lt
  · exact (h.tab.row.lt _ hx).2
  · exact (h.row.lt _ hx).2
/-- which blocks are which -/
theorem DecRep.ne (h : DecRep w d T v m1 m2 mx bv first hb hv l) : (hv.ownBlock ≠ some d ∧ hv.ownBlock ≠ some hb ∧ hv.ownBlock ≠ some m1 ∧ hv.ownBlock ≠ some m2) ∧ (hb ≠ d ∧ hb ≠ m1 ∧ hb ≠ m2 ∧ v.ownBlock ≠ some hb) := by
  obtain ⟨al1, al2, ⟨es1, c1, a1, _⟩, ⟨es2, c2, a2, _⟩, _⟩ := h.tab.maps
  exact ⟨⟨own_blk_ne h.row h.tab.blk (by decide), own_blk_ne h.row h.box (by decide), ownsRow_map_ne h.row a1, ownsRow_map_ne h.row a2⟩, ⟨blk_blk_ne h.box h.tab.blk (by decide), cells_map_ne h.box a1, cells_map_ne h.box a2, own_blk_ne h.tab.row h.box (by decide)⟩⟩
/-- one of the cells behind the table set -/
theorem DecRep.setTab (h : DecRep w d T v m1 m2 mx bv first hb hv l) {bv' : Value} {first' : Bool} (i : Nat) (x : Value) (he : (decRest (tsz T.ents) mx hb bv first).set i x = decRest (tsz T.ents) mx hb bv' first') :
    DecRep (w.setCell ⟨d, i + 5, none⟩ x) d T v m1 m2 mx bv' first' hb hv l ∧ Kept [d] w (w.setCell ⟨d, i + 5, none⟩ x) := by
  have kk : Kept [d] w (w.setCell ⟨d, i + 5, none⟩ x) := (Kept.refl _ _).setCell (by simp) _
  obtain ⟨⟨n1, n2, n3, n4⟩, n5, n6, n7, n8⟩ := h.ne
  refine ⟨⟨?_, h.box.kept kk (by simpa using n5), ownsRow_kept h.row kk (by intro g hg; simp; intro e'; exact n1 (by rw [hg, e'])), h.vh⟩, kk⟩
  rw [← he]; exact h.tab.setRest i x
theorem DecRep.setBuf (h : DecRep w d T v m1 m2 mx bv first hb hv l) (bv' : Value) :
    DecRep (w.setCell ⟨d, 11, none⟩ bv') d T v m1 m2 mx bv' first hb hv l ∧ Kept [d] w (w.setCell ⟨d, 11, none⟩ bv') := h.setTab 6 bv' rfl
theorem DecRep.setFirst (h : DecRep w d T v m1 m2 mx bv first hb hv l) (f : Bool) :
    DecRep (w.setCell ⟨d, 15, none⟩ (.bool f)) d T v m1 m2 mx bv f hb hv l ∧ Kept [d] w (w.setCell ⟨d, 15, none⟩ (.bool f)) := h.setTab 10 (.bool f) rfl
/-- a field emitted -/
theorem DecRep.emitted (h : DecRep w d T v m1 m2 mx bv first hb hv l) {hv' : Value} {l' : List Fld} (B : Blk w1 hb [hv'] 46) (hr : w1.ownsRow 0 50 3 hv' l'.length (l'.flatMap fc)) (hk : Kept (hb :: hv.ownBlock.toList) w w1) (hn : NewBlk w hv hv') : DecRep w1 d T v m1 m2 mx bv first hb hv' l' := by
  obtain ⟨⟨n1, n2, n3, n4⟩, n5, n6, n7, n8⟩ := h.ne
  refine ⟨h.tab.kept hk ?_, B, hr, ?_⟩
  · intro x hx
    simp [tset] at hx ⊢
    rcases hx with rfl | rfl | rfl | hx
    · exact ⟨fun e' => n5 e'.symm, fun e' => n1 e'⟩
    · exact ⟨fun e' => n6 e'.symm, fun e' => n3 e'⟩
    · exact ⟨fun e' => n7 e'.symm, fun e' => n4 e'⟩
    · exact ⟨fun e' => n8 (by rw [hx, e']), fun e' => h.vh x hx e'⟩
  · intro g hg
    rcases hn with e' | ⟨g', e', hg'⟩
    · rw [e']; exact h.vh g hg
    · rw [e']; intro e2; cases e2; have := (h.tab.row.lt _ hg).2; omega
/-- the table changed -/
theorem DecRep.newTab (h : DecRep w d T v m1 m2 mx bv first hb hv l) {T' : Tab} {v' : Value} {mx' : Nat} (hk : Kept (tset d v m1 m2) w w1) (ht : TabRep w1 d T' v' m1 m2 (decRest (tsz T'.ents) mx' hb bv first) 80) (hn : NewBlk w v v') : DecRep w1 d T' v' m1 m2 mx' bv first hb hv l := by
  obtain ⟨⟨n1, n2, n3, n4⟩, n5, n6, n7, n8⟩ := h.ne
  refine ⟨ht, h.box.kept hk ?_, ownsRow_kept h.row hk ?_, ?_⟩
  · simp [tset]; exact ⟨n5, n6, n7, fun e' => n8 e'⟩
  · intro g hg; simp [tset]; exact ⟨fun e' => n1 (by rw [hg, e']), fun e' => n3 (by rw [hg, e']), fun e' => n4 (by rw [hg, e']), fun e' => h.vh g e' hg⟩
  · intro g hg
    rcases hn with e' | ⟨g', e', hg'⟩
    · rw [e'] at hg; exact h.vh g hg
    · rw [e'] at hg; cases hg; intro e2; have := (h.row.lt _ e2).2; omega
end

/-- behind a step of the decoder: the rest of the bytes is the buffer -/
def DecRet (w : World) (d : Nat) (T' : Tab) (v : Value) (m1 m2 mx' : Nat) (first : Bool) (hb : Nat) (hv : Value) (l' : List Fld) (g : Nat) (rest : List UInt8) (e : Ending) (w' : World) : Prop :=
  ∃ bv' v' hv', e = .returned .nilIface ∧ DecRep w' d T' v' m1 m2 mx' bv' first hb hv' l' ∧ RdV w' g bv' rest ∧ Kept (decSet d v m1 m2 hb hv) w w' ∧ NewBlk w v v' ∧ NewBlk w hv hv'
end Go.Proofs.YtoceghdnipjkfaaDoor
