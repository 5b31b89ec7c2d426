/-
  Talk's memory: the encoder with its sink, the decoder, the fields heard, what was said so far.
-/
import Derived.Test.YtoceghdnipjkfaaDoorNew
import Derived.Test.YtoceghdnipjkfaaDoorSay
namespace Go.Proofs.YtoceghdnipjkfaaDoor
open Go.RowKit
attribute [local irreducible] st

/-- the cells of one answer -/
def saidCells (bv fv ev dv : Value) (s : SaidD) : List Value :=
  [bv, fv, .bool true, ev, .int .i64 (tsz s.tab.ents : Nat), .int .i64 (s.mx : Nat), dv, .int .i64 (tsz s.tab.ents : Nat), .int .i64 (s.mx : Nat)]
structure SaidRow (w : World) (bv fv ev dv : Value) (s : SaidD) : Prop where
  b : Bts w bv s.bytes
  f : w.ownsRow 0 23 3 fv s.flds.length (s.flds.flatMap fc)
  e : w.ownsRow 0 23 3 ev s.tab.ents.length (s.tab.ents.reverse.flatMap fc)
  d : w.ownsRow 0 23 3 dv s.tab.ents.length (s.tab.ents.reverse.flatMap fc)
/-- the rows of an answer lie off M -/
def OffM (w : World) (M : Nat → Prop) (bv fv ev dv : Value) : Prop := ∀ v ∈ [bv, fv, ev, dv], ∀ g, v.ownBlock = some g → ¬ M g ∧ g < w.heap.size
theorem SaidRow.kept {S : List Nat} {w w1 : World} {bv fv ev dv : Value} {s : SaidD} (h : SaidRow w bv fv ev dv s) (hk : Kept S w w1) (hn : ∀ v ∈ [bv, fv, ev, dv], ∀ g, v.ownBlock = some g → g ∉ S) : SaidRow w1 bv fv ev dv s :=
  ⟨ownsRow_kept h.b hk (hn bv (by simp)), ownsRow_kept h.f hk (hn fv (by simp)), ownsRow_kept h.e hk (hn ev (by simp)), ownsRow_kept h.d hk (hn dv (by simp))⟩
/-- the answers, one by one -/
def Saids (w : World) (M : Nat → Prop) : List (List Value) → List SaidD → Prop
  | [], [] => True
  | x :: xs, s :: ss => (∃ bv fv ev dv, x = saidCells bv fv ev dv s ∧ SaidRow w bv fv ev dv s ∧ OffM w M bv fv ev dv) ∧ Saids w M xs ss
  | _, _ => False
theorem Saids.step {S : List Nat} {w w1 : World} {M M' : Nat → Prop} (hk : Kept S w w1) (hS : ∀ x ∈ S, M x ∨ w.heap.size ≤ x) (hM : ∀ x, M' x → M x ∨ w.heap.size ≤ x) : ∀ (xs : List (List Value)) (ss : List SaidD), Saids w M xs ss → Saids w1 M' xs ss
  | [], [], _ => trivial
  | x :: xs, s :: ss, h => by
    obtain ⟨⟨bv, fv, ev, dv, rfl, hr, ho⟩, h2⟩ := h
    refine ⟨⟨bv, fv, ev, dv, rfl, hr.kept hk ?_, ?_⟩, Saids.step hk hS hM xs ss h2⟩
    · intro v hv g hg hs
      obtain ⟨h1, h2⟩ := ho v hv g hg
      rcases hS g hs with h | h
      · exact h1 h
      · omega
    · intro v hv g hg
      obtain ⟨h1, h2⟩ := ho v hv g hg
      refine ⟨fun hm => ?_, Nat.lt_of_lt_of_le h2 hk.size⟩
      rcases hM g hm with h | h
      · exact h1 h
      · omega
  | [], _ :: _, h => h
  | _ :: _, [], h => h
theorem Saids.snoc {w : World} {M : Nat → Prop} {x : List Value} {s : SaidD} (hx : ∃ bv fv ev dv, x = saidCells bv fv ev dv s ∧ SaidRow w bv fv ev dv s ∧ OffM w M bv fv ev dv) : ∀ (xs : List (List Value)) (ss : List SaidD), Saids w M xs ss → Saids w M (xs ++ [x]) (ss ++ [s])
  | [], [], _ => ⟨hx, trivial⟩
  | _ :: xs, _ :: ss, h => ⟨h.1, Saids.snoc hx xs ss h.2⟩
  | [], _ :: _, h => h.elim
  | _ :: _, [], h => h.elim
theorem Saids.len {w : World} {M : Nat → Prop} : ∀ (xs : List (List Value)) (ss : List SaidD), Saids w M xs ss → xs.length = ss.length
  | [], [], _ => rfl
  | _ :: xs, _ :: ss, h => by simp [Saids.len xs ss h.2]
  | [], _ :: _, h => h.elim
  | _ :: _, [], h => h.elim

/-- the blocks that change -/
def Mut (e k d hb m1 m2 m3 m4 : Nat) (ve vd hv bv sv outv : Value) (x : Nat) : Prop := x ∈ sendSet e k ve m1 m2 bv sv ∨ x ∈ decSet d vd m3 m4 hb hv ∨ outv.ownBlock = some x
structure TalkRep (w0 w : World) (e k d hb m1 m2 m3 m4 : Nat) (T : Tab) (mx mn : Nat) (upd : Bool) (Td : Tab) (mxd : Nat) (ve vd hv bv sv bufv outv : Value) (sent lb : List UInt8) (hd : List Fld) (first : Bool) (xs : List (List Value)) (ss : List SaidD) : Prop where
  send : SendRep w e k T ve m1 m2 mx mn upd bv sv sent lb
  dec : DecRep w d Td vd m3 m4 mxd bufv first hb hv hd
  out : w.ownsRow 0 35 9 outv xs.length xs.flatten
  sd : ∀ x, x ∈ sendSet e k ve m1 m2 bv sv → x ∉ decSet d vd m3 m4 hb hv
  so : ∀ g, outv.ownBlock = some g → g ∉ sendSet e k ve m1 m2 bv sv ∧ g ∉ decSet d vd m3 m4 hb hv
  new : ∀ x, Mut e k d hb m1 m2 m3 m4 ve vd hv bv sv outv x → w0.heap.size ≤ x
  said : Saids w (Mut e k d hb m1 m2 m3 m4 ve vd hv bv sv outv) xs ss
  kept : Kept [] w0 w

theorem SendRep.lt {w : World} {e k : Nat} {T : Tab} {v : Value} {m1 m2 mx mn : Nat} {upd : Bool} {bv sv : Value} {sent l : List UInt8} (h : SendRep w e k T v m1 m2 mx mn upd bv sv sent l) : ∀ x, x ∈ sendSet e k v m1 m2 bv sv → x < w.heap.size := by
  intro x hx
  obtain ⟨al1, al2, a1, a2, _⟩ := h.tab.maps
  simp [sendSet, tset] at hx
  rcases hx with hx | hx | hx | hx | hx | hx | hx
  · rw [hx]; exact h.sink.lt
  · rw [hx]; exact h.tab.blk.lt
  · rw [hx]; exact a1.lt
  · rw [hx]; exact a2.lt
  · exact (h.tab.row.lt _ hx).2
  · exact (h.buf.lt _ hx).2
  · exact (h.srow.lt _ hx).2
theorem sendSet_sub {w : World} {e k m1 m2 : Nat} {v v1 bv bv1 sv sv1 : Value} (n1 : NewBlk w v v1) (n2 : NewBlk w bv bv1) (n3 : NewBlk w sv sv1) {q : Nat} (hq : q ∈ sendSet e k v1 m1 m2 bv1 sv1) : q ∈ sendSet e k v m1 m2 bv sv ∨ w.heap.size ≤ q := by
  simp [sendSet, tset] at hq ⊢
  rcases hq with hq | hq | hq | hq | hq | hq | hq
  · simp [hq]
  · simp [hq]
  · simp [hq]
  · simp [hq]
  · rcases n1 with e' | ⟨g', e', hg'⟩
    · rw [e'] at hq; simp [hq]
    · rw [e'] at hq; cases hq; simp [hg']
  · rcases n2 with e' | ⟨g', e', hg'⟩
    · rw [e'] at hq; simp [hq]
    · rw [e'] at hq; cases hq; simp [hg']
  · rcases n3 with e' | ⟨g', e', hg'⟩
    · rw [e'] at hq; simp [hq]
    · rw [e'] at hq; cases hq; simp [hg']

section
variable {w0 w w1 : World} {e k d hb m1 m2 m3 m4 : Nat} {T : Tab} {mx mn : Nat} {upd : Bool} {Td : Tab} {mxd : Nat} {ve vd hv bv sv bufv outv : Value} {sent lb : List UInt8} {hd : List Fld} {first : Bool} {xs : List (List Value)} {ss : List SaidD}
theorem TalkRep.lt (h : TalkRep w0 w e k d hb m1 m2 m3 m4 T mx mn upd Td mxd ve vd hv bv sv bufv outv sent lb hd first xs ss) : ∀ x, Mut e k d hb m1 m2 m3 m4 ve vd hv bv sv outv x → x < w.heap.size := by
  rintro x (hx | hx | hx)
  · exact h.send.lt x hx
  · exact h.dec.lt x hx
  · exact (h.out.lt x hx).2
/-- the call's own new blocks, whatever is done to them -/
theorem TalkRep.quiet (h : TalkRep w0 w e k d hb m1 m2 m3 m4 T mx mn upd Td mxd ve vd hv bv sv bufv outv sent lb hd first xs ss) (hk : Kept [] w w1) : TalkRep w0 w1 e k d hb m1 m2 m3 m4 T mx mn upd Td mxd ve vd hv bv sv bufv outv sent lb hd first xs ss :=
  ⟨h.send.kept0 hk, h.dec.kept0 hk, ownsRow_kept h.out hk (by simp), h.sd, h.so, h.new, Saids.step hk (by simp) (fun x hx => .inl hx) _ _ h.said, h.kept.trans hk⟩
/-- the encoder has gone on -/
theorem TalkRep.wrote (h : TalkRep w0 w e k d hb m1 m2 m3 m4 T mx mn upd Td mxd ve vd hv bv sv bufv outv sent lb hd first xs ss) {T' : Tab} {mx' mn' : Nat} {upd' : Bool} {ve' bv' sv' : Value} {sent' lb' : List UInt8}
    (hs : SendRep w1 e k T' ve' m1 m2 mx' mn' upd' bv' sv' sent' lb') (hk : Kept (sendSet e k ve m1 m2 bv sv) w w1) (hsub : ∀ q, q ∈ sendSet e k ve' m1 m2 bv' sv' → q ∈ sendSet e k ve m1 m2 bv sv ∨ w.heap.size ≤ q) :
    TalkRep w0 w1 e k d hb m1 m2 m3 m4 T' mx' mn' upd' Td mxd ve' vd hv bv' sv' bufv outv sent' lb' hd first xs ss := by
  refine ⟨hs, h.dec.kept hk (fun x hx hs => h.sd x hs hx), ownsRow_kept h.out hk (fun g hg => (h.so g hg).1), ?_, ?_, ?_, ?_, ?_⟩
  · intro x hx hd
    rcases hsub x hx with h' | h'
    · exact h.sd x h' hd
    · have := h.dec.lt x hd; omega
  · intro g hg
    refine ⟨fun hx => ?_, (h.so g hg).2⟩
    rcases hsub g hx with h' | h'
    · exact (h.so g hg).1 h'
    · have := (h.out.lt g hg).2; omega
  · rintro x (hx | hx | hx)
    · rcases hsub x hx with h' | h'
      · exact h.new x (.inl h')
      · have := h.kept.size; omega
    · exact h.new x (.inr (.inl hx))
    · exact h.new x (.inr (.inr hx))
  · refine Saids.step hk (fun x hx => .inl (.inl hx)) ?_ _ _ h.said
    rintro x (hx | hx | hx)
    · rcases hsub x hx with h' | h'
      · exact .inl (.inl h')
      · exact .inr h'
    · exact .inl (.inr (.inl hx))
    · exact .inl (.inr (.inr hx))
  · exact h.kept.step hk (fun q hq => .inr (h.new q (.inl hq)))
/-- the decoder has gone on -/
theorem TalkRep.read (h : TalkRep w0 w e k d hb m1 m2 m3 m4 T mx mn upd Td mxd ve vd hv bv sv bufv outv sent lb hd first xs ss) {Td' : Tab} {mxd' : Nat} {vd' hv' bufv' : Value} {hd' : List Fld} {first' : Bool}
    (hs : DecRep w1 d Td' vd' m3 m4 mxd' bufv' first' hb hv' hd') (hk : Kept (decSet d vd m3 m4 hb hv) w w1) (hsub : ∀ q, q ∈ decSet d vd' m3 m4 hb hv' → q ∈ decSet d vd m3 m4 hb hv ∨ w.heap.size ≤ q) :
    TalkRep w0 w1 e k d hb m1 m2 m3 m4 T mx mn upd Td' mxd' ve vd' hv' bv sv bufv' outv sent lb hd' first' xs ss := by
  refine ⟨h.send.kept hk h.sd, hs, ownsRow_kept h.out hk (fun g hg => (h.so g hg).2), ?_, ?_, ?_, ?_, ?_⟩
  · intro x hx hd
    rcases hsub x hd with h' | h'
    · exact h.sd x hx h'
    · have := h.send.lt x hx; omega
  · intro g hg
    refine ⟨(h.so g hg).1, fun hx => ?_⟩
    rcases hsub g hx with h' | h'
    · exact (h.so g hg).2 h'
    · have := (h.out.lt g hg).2; omega
  · rintro x (hx | hx | hx)
    · exact h.new x (.inl hx)
    · rcases hsub x hx with h' | h'
      · exact h.new x (.inr (.inl h'))
      · have := h.kept.size; omega
    · exact h.new x (.inr (.inr hx))
  · refine Saids.step hk (fun x hx => .inl (.inr (.inl hx))) ?_ _ _ h.said
    rintro x (hx | hx | hx)
    · exact .inl (.inl hx)
    · rcases hsub x hx with h' | h'
      · exact .inl (.inr (.inl h'))
      · exact .inr h'
    · exact .inl (.inr (.inr hx))
  · exact h.kept.step hk (fun q hq => .inr (h.new q (.inr (.inl hq))))
/-- one answer more -/
theorem TalkRep.more (h : TalkRep w0 w e k d hb m1 m2 m3 m4 T mx mn upd Td mxd ve vd hv bv sv bufv outv sent lb hd first xs ss) {outv' : Value} {rv fv ev dv : Value} {s : SaidD}
    (hx : SaidRow w rv fv ev dv s) (ho : OffM w (Mut e k d hb m1 m2 m3 m4 ve vd hv bv sv outv) rv fv ev dv) (hr : w1.ownsRow 0 35 9 outv' (xs.length + 1) (xs.flatten ++ saidCells rv fv ev dv s)) (hk : Kept outv.ownBlock.toList w w1) (hn : NewBlk w outv outv') :
    TalkRep w0 w1 e k d hb m1 m2 m3 m4 T mx mn upd Td mxd ve vd hv bv sv bufv outv' sent lb hd first (xs ++ [saidCells rv fv ev dv s]) (ss ++ [s]) := by
  have hs : ∀ x, x ∈ outv.ownBlock.toList → outv.ownBlock = some x := by intro x hx; simpa using hx
  refine ⟨h.send.kept hk (fun x hx hs' => (h.so x (hs x hs')).1 hx), h.dec.kept hk (fun x hx hs' => (h.so x (hs x hs')).2 hx), by rw [List.length_append]; simpa using hr, h.sd, ?_, ?_, ?_, ?_⟩
  · intro g hg
    rcases hn with e' | ⟨g', e', hg'⟩
    · rw [e'] at hg; exact h.so g hg
    · rw [e'] at hg; cases hg
      exact ⟨fun hx => by have := h.send.lt _ hx; omega, fun hx => by have := h.dec.lt _ hx; omega⟩
  · rintro x (hx | hx | hx)
    · exact h.new x (.inl hx)
    · exact h.new x (.inr (.inl hx))
    · rcases hn with e' | ⟨g', e', hg'⟩
      · rw [e'] at hx; exact h.new x (.inr (.inr hx))
      · rw [e'] at hx; cases hx; have := h.kept.size; omega
  · refine Saids.step hk (fun x hx => .inl (.inr (.inr (hs x hx)))) ?_ _ _ (Saids.snoc ⟨rv, fv, ev, dv, rfl, hx, ho⟩ _ _ h.said)
    rintro x (hx | hx | hx)
    · exact .inl (.inl hx)
    · exact .inl (.inr (.inl hx))
    · rcases hn with e' | ⟨g', e', hg'⟩
      · rw [e'] at hx; exact .inl (.inr (.inr hx))
      · rw [e'] at hx; cases hx; exact .inr hg'
  · exact h.kept.step hk (fun q hq => .inr (h.new q (.inr (.inr (hs q hq)))))
/-- the sink emptied -/
theorem SendRep.empty (h : SendRep w e k T ve m1 m2 mx mn upd bv sv sent lb) : SendRep (w.setCell ⟨k, 0, none⟩ (.slice none 0 0)) e k T ve m1 m2 mx mn upd bv (.slice none 0 0) [] lb ∧ Kept [k] w (w.setCell ⟨k, 0, none⟩ (.slice none 0 0)) := by
  have kk : Kept [k] w (w.setCell ⟨k, 0, none⟩ (.slice none 0 0)) := (Kept.refl _ _).setCell (by simp) _
  obtain ⟨⟨n1, n2, n3, n4, n5⟩, ⟨n6, n7, n8, n9, n10⟩, n11, n12, n13, n14⟩ := h.ne
  refine ⟨⟨h.tab.kept kk ?_, ownsRow_kept h.buf kk ?_, h.sink.set 0 _, World.ownsRow_nil _ 0 5 1, by simp [Value.ownBlock]⟩, kk⟩
  · intro x hx
    simp [tset] at hx ⊢
    rcases hx with rfl | rfl | rfl | hx
    · exact fun e' => n11 e'.symm
    · exact fun e' => n12 e'.symm
    · exact fun e' => n13 e'.symm
    · exact fun e' => n14 (by rw [hx, e'])
  · intro g hg; simp; exact fun e' => n2 (by rw [hg, e'])
/-- the fields heard forgotten -/
theorem DecRep.empty (h : DecRep w d Td vd m3 m4 mxd bufv first hb hv hd) : DecRep (w.setCell ⟨hb, 0, none⟩ (.slice none 0 0)) d Td vd m3 m4 mxd bufv first hb (.slice none 0 0) [] ∧ Kept [hb] w (w.setCell ⟨hb, 0, none⟩ (.slice none 0 0)) := by
  have kk : Kept [hb] w (w.setCell ⟨hb, 0, none⟩ (.slice none 0 0)) := (Kept.refl _ _).setCell (by simp) _
  obtain ⟨⟨n1, n2, n3, n4⟩, n5, n6, n7, n8⟩ := h.ne
  refine ⟨⟨h.tab.kept kk ?_, h.box.set 0 _, World.ownsRow_nil _ 0 50 3, by simp [Value.ownBlock]⟩, kk⟩
  intro x hx
  simp [tset] at hx ⊢
  rcases hx with rfl | rfl | rfl | hx
  · exact fun e' => n5 e'.symm
  · exact fun e' => n6 e'.symm
  · exact fun e' => n7 e'.symm
  · exact fun e' => n8 (by rw [hx, e'])
end

/-- a list of fields as the caller has it -/
def FldsAt (w : World) (v : Value) (l : List Fld) : Prop :=
  ∃ p c, v = .slice p l.length c ∧ ∀ j f, l[j]? = some f → ∃ b o, p = some ⟨b, o, none⟩ ∧ w.cell? ⟨b, o + j * 3, none⟩ = some (.string f.name) ∧ w.cell? ⟨b, o + j * 3 + 1, none⟩ = some (.string f.value) ∧ w.cell? ⟨b, o + j * 3 + 2, none⟩ = some (.bool f.sens)
def PartsAt (w : World) (v : Value) (ps : List PartD) : Prop :=
  ∃ p c, v = .slice p ps.length c ∧ ∀ i q, ps[i]? = some q → ∃ b o fv, p = some ⟨b, o, none⟩ ∧ w.cell? ⟨b, o + i * 2, none⟩ = some (.int .i64 q.size) ∧ w.cell? ⟨b, o + i * 2 + 1, none⟩ = some fv ∧ FldsAt w fv q.flds
theorem FldsAt.kept {w w' : World} {v : Value} {l : List Fld} (h : FldsAt w v l) (hk : Kept [] w w') : FldsAt w' v l := by
  obtain ⟨p, c, hv, h⟩ := h
  refine ⟨p, c, hv, fun j f hj => ?_⟩
  obtain ⟨b, o, h0, h1, h2, h3⟩ := h j f hj
  exact ⟨b, o, h0, hk.cell h1 (by simp), hk.cell h2 (by simp), hk.cell h3 (by simp)⟩
theorem PartsAt.kept {w w' : World} {v : Value} {ps : List PartD} (h : PartsAt w v ps) (hk : Kept [] w w') : PartsAt w' v ps := by
  obtain ⟨p, c, hv, h⟩ := h
  refine ⟨p, c, hv, fun j q hj => ?_⟩
  obtain ⟨b, o, fv, h0, h1, h2, h3⟩ := h j q hj
  exact ⟨b, o, fv, h0, hk.cell h1 (by simp), hk.cell h2 (by simp), h3.kept hk⟩
end Go.Proofs.YtoceghdnipjkfaaDoor
