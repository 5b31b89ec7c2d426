/-
  The encoder with its sink: sink.Write, Encoder.WriteField.
-/
import Derived.Test.YtoceghdnipjkfaaDoorEnc
namespace Go.Proofs.YtoceghdnipjkfaaDoor
open Go.RowKit
attribute [local irreducible] st

theorem own_ne {w : World} {e1 s1 : Nat} {v1 : Value} {n1 : Nat} {xs1 : List Value} {e2 s2 : Nat} {v2 : Value} {n2 : Nat} {xs2 : List Value} (h1 : w.ownsRow 0 e1 s1 v1 n1 xs1) (h2 : w.ownsRow 0 e2 s2 v2 n2 xs2) (he : e1 ≠ e2) {g : Nat} (hg : v1.ownBlock = some g) : v2.ownBlock ≠ some g := by
  intro hg2
  rcases h1.2 with ⟨rfl, _⟩ | ⟨g1, c1, cur1, rfl, _, hh1, _⟩
  · cases hg
  · rcases h2.2 with ⟨rfl, _⟩ | ⟨g2, c2, cur2, rfl, _, hh2, _⟩
    · cases hg2
    · simp [Value.ownBlock] at hg hg2; subst hg; subst hg2
      rw [hh1] at hh2; cases hh2; exact he rfl
theorem own_blk_ne {w : World} {e s : Nat} {v : Value} {n : Nat} {xs : List Value} {k : Nat} {l : List Value} {ty : TypeId} (h : w.ownsRow 0 e s v n xs) (B : Blk w k l ty) (he : e ≠ ty) : v.ownBlock ≠ some k := by
  intro hg
  rcases h.2 with ⟨rfl, _⟩ | ⟨g1, c1, cur1, rfl, _, hh1, _⟩
  · cases hg
  · simp [Value.ownBlock] at hg; subst hg
    unfold Blk at B; rw [B] at hh1; cases hh1; exact he rfl
theorem blk_blk_ne {w : World} {k k' : Nat} {l l' : List Value} {ty ty' : TypeId} (B : Blk w k l ty) (B' : Blk w k' l' ty') (he : ty ≠ ty') : k ≠ k' := by
  intro e; subst e; unfold Blk at B B'; rw [B] at B'; cases B'; exact he rfl

/-- 'append(dst, p...)' of a row of bytes -/
theorem app_slice (W : World) {ops : Array Oper} {rest : List Oper} {o : Oper} {a : Act} {Q : Exit → Act → World → Prop} (hgd : o.guard = none) (d x : Operand)
    (ho : o.op = .call { callee := .builtin .append, args := #[d, x], argTypes := #[31, 31] }) (v : Value) (l : List UInt8) (hsv : a.eval d = v) (hown : Bts W v l) (xv : Value) (l2 : List UInt8) (hx : a.eval x = xv) (hown2 : Bts W xv l2) (hlen : l.length + l2.length ≤ 140737488355328)
    (h : ∀ v' w', AppTo W w' v v' (l ++ l2) → wpList Tryd.prog ops Q rest (a.put o.dst v') w') : wpList Tryd.prog ops Q (o :: rest) a W := by
  obtain ⟨i0, hi0, hz0, hz1, hz2⟩ := info_parts info5
  have hsrc : Src Tryd.prog 1 31 xv l2.length (bc l2) W := by
    rcases hown2.2 with ⟨rfl, h0⟩ | ⟨g, cap, cur, rfl, _, hg, h1, h2, h3, h4⟩
    · rw [h0]
      have : l2 = [] := List.eq_nil_of_length_eq_zero h0
      subst this
      exact Src.ofNil W Tryd.underlying31 0
    · exact Src.ofSlice W Tryd.underlying31 _ _ cap (bc l2) (by rw [bc_length, Nat.mul_one]) (hown2.cells (g := g) rfl) (bc_one _)
  refine wpList_app _ hgd d x 31 31 ho 5 i0 _ 1 1 Tryd.underlying31 hi0 hz0 hz1 hz2 rfl v l.length (bc l) hsv hown _ hx l2.length (bc l2) hsrc (by unfold maxLen; omega) (by omega) ?_
  intro v' w' h1 h2 h3 h4
  refine h v' w' ⟨?_, h2, h3⟩
  unfold Bts; rw [List.length_append, bc_append]; exact h1

theorem AppTo.isSlice {w w1 : World} {v v1 : Value} {l : List UInt8} (h : AppTo w w1 v v1 l) : ∃ p n c, v1 = .slice p n c := by
  obtain ⟨p, c, hv, _⟩ := ownsRow_slice h.own
  exact ⟨p, _, c, hv⟩
def SinkRet (w : World) (k : Nat) (sv : Value) (l : List UInt8) (n : Nat) (e : Ending) (w' : World) : Prop :=
  ∃ sv', e = .returned (.tuple #[.int .i64 n, .nilIface]) ∧ Blk w' k [sv'] 43 ∧ Bts w' sv' l ∧ Kept (k :: sv.ownBlock.toList) w w' ∧ NewBlk w sv sv'
set_option maxRecDepth 100000 in
set_option maxHeartbeats 1000000 in
theorem sink_any (k : Nat) (sv bv : Value) (sent l : List UInt8) (w : World) (B : Blk w k [sv] 43) (hs : Bts w sv sent) (hb : Bts w bv l) (hlen : sent.length + l.length ≤ 4294967296) :
    Calls Tryd.prog 92 #[.pointer (some ⟨k, 0, none⟩), bv] w (SinkRet w k sv (sent ++ l) l.length) := by
  have c0 := B.cell 0 rfl
  obtain ⟨p, cap, hv, hle, hm⟩ := ownsRow_slice hb
  have ne := own_blk_ne hs B (by decide)
  obtain ⟨p2, cap2, hv2, _⟩ := ownsRow_slice hs
  subst hv
  have HV2 := Lib.hid hv2; clear hv2
  go_enter Tryd.func92, Tryd.ntmps92
  go_wp2_with ((at_builtin; go_must (refine app_slice _ rfl _ _ rfl _ sent rfl hs _ l rfl hb (by omega) ?_; intro v2 w2 h2; have B2 := h2.keepBlk B ne; have f2 := B2.frozen 0; have d2 := B2.cell 0 rfl; obtain ⟨p3, cap3, hv3, _⟩ := ownsRow_slice h2.own; have HV3 := Lib.hid hv3; subst hv3)))
  go_ret2
  rw [← List.length_append]
  have hne3 : ∀ g, (Value.slice p3 (sent ++ l).length cap3).ownBlock = some g → g ≠ k := by
    intro g hg e; subst e; exact own_blk_ne h2.own B2 (by decide) hg
  refine ⟨.slice p3 (sent ++ l).length cap3, rfl, B2.set 0 _, ?_, ?_, h2.blk⟩
  · exact ownsRow_kept h2.own ((Kept.refl [k] _).setCell (by simp) _) (by simpa using hne3)
  · have hk2 : Kept sv.ownBlock.toList w w2 := h2.kept
    exact ((hk2.mono (by intro x hx; exact List.mem_cons_of_mem _ hx)).setCell (by simp) _)

/-- what one field is written to, and the table behind it -/
noncomputable def encField (f : Fld) (T : Tab) (mx : Nat) : List UInt8 :=
  if (searchAll f T).2 = true then orF 128 (vi 7 (searchAll f T).1)
  else if (searchAll f T).1 = 0 then b8 (typeByte (should f mx) f.sens) :: (encStr f.name ++ encStr f.value)
  else orF (typeByte (should f mx) f.sens) (vi (if should f mx = true then 6 else 4) (searchAll f T).1) ++ encStr f.value
/-- the table size update ahead of a field -/
def updB (upd : Bool) (mx : Nat) : List UInt8 := if upd = true then orF 32 (vi 5 mx) else []
noncomputable def nextTab (f : Fld) (T : Tab) (mx : Nat) : Tab :=
  if (searchAll f T).2 = true then T
  else if should f mx = true then fit mx ⟨T.ents ++ [f], T.ev⟩ else T

/-- the encoder's cells behind the table -/
def encRest (sz mx mn : Nat) (upd : Bool) (k : Nat) (bv : Value) : List Value :=
  [.int .u32 sz, .int .u32 mx, .int .u32 0, .int .u32 mn, .int .u32 4096, .bool upd, .iface 41 (.pointer (some ⟨k, 0, none⟩)), bv]
structure SendRep (w : World) (e k : Nat) (T : Tab) (v : Value) (m1 m2 mx mn : Nat) (upd : Bool) (bv sv : Value) (sent l : List UInt8) : Prop where
  tab : TabRep w e T v m1 m2 (encRest (tsz T.ents) mx mn upd k bv) 74
  buf : Bts w bv l
  sink : Blk w k [sv] 43
  srow : Bts w sv sent
  bs : ∀ g, bv.ownBlock = some g → sv.ownBlock ≠ some g
def sendSet (e k : Nat) (v : Value) (m1 m2 : Nat) (bv sv : Value) : List Nat := k :: tset e v m1 m2 ++ bv.ownBlock.toList ++ sv.ownBlock.toList

section
variable {w w1 : World} {e k : Nat} {T : Tab} {v : Value} {m1 m2 mx mn : Nat} {upd : Bool} {bv sv : Value} {sent l : List UInt8}
theorem SendRep.kept {S : List Nat} (h : SendRep w e k T v m1 m2 mx mn upd bv sv sent l) (hk : Kept S w w1) (hd : ∀ x, x ∈ sendSet e k v m1 m2 bv sv → x ∉ S) : SendRep w1 e k T v m1 m2 mx mn upd bv sv sent l :=
  ⟨h.tab.kept hk (fun x hx => hd x (by simp [sendSet, hx])), ownsRow_kept h.buf hk (fun g hg => hd g (by simp [sendSet, hg])), h.sink.kept hk (hd k (by simp [sendSet])), ownsRow_kept h.srow hk (fun g hg => hd g (by simp [sendSet, hg])), h.bs⟩
theorem SendRep.kept0 (h : SendRep w e k T v m1 m2 mx mn upd bv sv sent l) (hk : Kept [] w w1) : SendRep w1 e k T v m1 m2 mx mn upd bv sv sent l := h.kept hk (by simp)
/-- which blocks are which -/
theorem SendRep.ne (h : SendRep w e k T v m1 m2 mx mn upd bv sv sent l) : (bv.ownBlock ≠ some e ∧ bv.ownBlock ≠ some k ∧ bv.ownBlock ≠ some m1 ∧ bv.ownBlock ≠ some m2 ∧ (∀ g, v.ownBlock = some g → bv.ownBlock ≠ some g)) ∧ (sv.ownBlock ≠ some e ∧ sv.ownBlock ≠ some k ∧ sv.ownBlock ≠ some m1 ∧ sv.ownBlock ≠ some m2 ∧ (∀ g, v.ownBlock = some g → sv.ownBlock ≠ some g)) ∧ (k ≠ e ∧ k ≠ m1 ∧ k ≠ m2 ∧ v.ownBlock ≠ some k) := by
  obtain ⟨al1, al2, ⟨es1, c1, a1, _⟩, ⟨es2, c2, a2, _⟩, _⟩ := h.tab.maps
  refine ⟨⟨own_blk_ne h.buf h.tab.blk (by decide), own_blk_ne h.buf h.sink (by decide), ownsRow_map_ne h.buf a1, ownsRow_map_ne h.buf a2, fun g hg => own_ne h.tab.row h.buf (by decide) hg⟩, ⟨own_blk_ne h.srow h.tab.blk (by decide), own_blk_ne h.srow h.sink (by decide), ownsRow_map_ne h.srow a1, ownsRow_map_ne h.srow a2, fun g hg => own_ne h.tab.row h.srow (by decide) hg⟩, blk_blk_ne h.sink h.tab.blk (by decide), cells_map_ne h.sink a1, cells_map_ne h.sink a2, own_blk_ne h.tab.row h.sink (by decide)⟩
/-- the buffer grown and stored -/
theorem SendRep.app (h : SendRep w e k T v m1 m2 mx mn upd bv sv sent l) {bv' : Value} {l' : List UInt8} (ha : AppTo w w1 bv bv' l') :
    SendRep (w1.setCell ⟨e, 12, none⟩ bv') e k T v m1 m2 mx mn upd bv' sv sent l' ∧ Kept (e :: bv.ownBlock.toList) w (w1.setCell ⟨e, 12, none⟩ bv') := by
  obtain ⟨⟨n1, n2, n3, n4, n5⟩, ⟨n6, n7, n8, n9, n10⟩, n11, n12, n13, n14⟩ := h.ne
  have kk : Kept (e :: bv.ownBlock.toList) w (w1.setCell ⟨e, 12, none⟩ bv') := (ha.kept.mono (by intro x hx; simp [hx])).setCell (by simp) _
  have B1 : Blk w1 e _ 74 := h.tab.blk.kept ha.kept (by simpa using fun e => n1 e)
  have hbe : bv'.ownBlock ≠ some e := ha.off n1 h.tab.blk.lt
  refine ⟨⟨⟨?_, ownsRow_kept h.tab.row kk ?_, ?_, h.tab.ne, h.tab.vb⟩, ownsRow_kept ha.own ((Kept.refl [e] _).setCell (by simp) _) (by intro g hg; simp; intro e'; exact hbe (by rw [hg, e'])), h.sink.kept kk ?_, ownsRow_kept h.srow kk ?_, ?_⟩, kk⟩
  · exact B1.set 12 bv'
  · intro g hg; simp; exact ⟨fun e' => h.tab.vb (by rw [hg, e']), fun e' => n5 g hg e'⟩
  · obtain ⟨al1, al2, A1, A2, LL⟩ := h.tab.maps
    exact ⟨al1, al2, A1.kept kk (by simp; exact ⟨fun e' => h.tab.b_m1 e'.symm, fun e' => n3 e'⟩), A2.kept kk (by simp; exact ⟨fun e' => h.tab.b_m2 e'.symm, fun e' => n4 e'⟩), LL⟩
  · simp; exact ⟨n11, fun e' => n2 e'⟩
  · intro g hg; simp; exact ⟨fun e' => n6 (by rw [hg, e']), fun e' => h.bs g e' hg⟩
  · intro g hg hs
    rcases ha.blk with e' | ⟨g', e', hg'⟩
    · rw [e'] at hg; exact h.bs g hg hs
    · rw [e'] at hg; cases hg; have := (h.srow.lt _ hs).2; omega
theorem SendRep.sentTo (h : SendRep w e k T v m1 m2 mx mn upd bv sv sent l) {sv' : Value} {sent' : List UInt8} (hB : Blk w1 k [sv'] 43) (hs : Bts w1 sv' sent') (hk : Kept (k :: sv.ownBlock.toList) w w1) (hn : NewBlk w sv sv') : SendRep w1 e k T v m1 m2 mx mn upd bv sv' sent' l := by
  obtain ⟨⟨n1, n2, n3, n4, n5⟩, ⟨n6, n7, n8, n9, n10⟩, n11, n12, n13, n14⟩ := h.ne
  refine ⟨h.tab.kept hk ?_, ownsRow_kept h.buf hk ?_, hB, hs, ?_⟩
  · intro x hx
    simp [tset] at hx ⊢
    rcases hx with rfl | rfl | rfl | hx
    · exact ⟨fun e' => n11 e'.symm, fun e' => n6 e'⟩
    · exact ⟨fun e' => n12 e'.symm, fun e' => n8 e'⟩
    · exact ⟨fun e' => n13 e'.symm, fun e' => n9 e'⟩
    · exact ⟨fun e' => n14 (by rw [hx, e']), fun e' => n10 x hx e'⟩
  · intro g hg; simp; exact ⟨fun e' => n2 (by rw [hg, e']), fun e' => h.bs g hg e'⟩
  · intro g hg
    rcases hn with e' | ⟨g', e', hg'⟩
    · rw [e']; exact h.bs g hg
    · rw [e']; intro e2; cases e2; have := (h.buf.lt _ hg).2; omega
/-- the table changed -/
theorem SendRep.newTab (h : SendRep w e k T v m1 m2 mx mn upd bv sv sent l) {T' : Tab} {v' : Value} (hk : Kept (tset e v m1 m2) w w1) (ht : TabRep w1 e T' v' m1 m2 (encRest (tsz T'.ents) mx mn upd k bv) 74) : SendRep w1 e k T' v' m1 m2 mx mn upd bv sv sent l := by
  obtain ⟨⟨n1, n2, n3, n4, n5⟩, ⟨n6, n7, n8, n9, n10⟩, n11, n12, n13, n14⟩ := h.ne
  refine ⟨ht, ownsRow_kept h.buf hk ?_, h.sink.kept hk ?_, ownsRow_kept h.srow hk ?_, h.bs⟩
  · intro g hg; simp [tset]; exact ⟨fun e' => n1 (by rw [hg, e']), fun e' => n3 (by rw [hg, e']), fun e' => n4 (by rw [hg, e']), fun e' => n5 g e' hg⟩
  · simp [tset]; exact ⟨n11, n12, n13, fun e' => n14 e'⟩
  · intro g hg; simp [tset]; exact ⟨fun e' => n6 (by rw [hg, e']), fun e' => n8 (by rw [hg, e']), fun e' => n9 (by rw [hg, e']), fun e' => n10 g e' hg⟩
end

theorem NewBlk.trans {w w1 : World} {v v1 v2 : Value} (h : NewBlk w v v1) (k : NewBlk w1 v1 v2) (hs : w.heap.size ≤ w1.heap.size) : NewBlk w v v2 := by
  rcases k with e | ⟨g, e, hg⟩
  · rcases h with e1 | ⟨g, e1, hg⟩
    · exact .inl (e.trans e1)
    · exact .inr ⟨g, e.trans e1, hg⟩
  · exact .inr ⟨g, e, by omega⟩
structure TOk (T : Tab) (mx : Nat) : Prop where
  len : T.ents.length + T.ev < 4294967000
  sz : tsz T.ents ≤ mx
  mx : mx ≤ 4096
  fb : FBound T.ents

theorem encField_len (f : Fld) (T : Tab) (mx : Nat) (hi : (searchAll f T).1 < 4294967296) (hf : f.name.size + f.value.size ≤ 4000000) : (encField f T mx).length ≤ f.name.size + f.value.size + 20 := by
  have h1 := encStr_len f.name (by omega)
  have h2 := encStr_len f.value (by omega)
  have h3 := fun n => vi_len n _ hi
  unfold encField
  split
  · rw [orF_len]; have := h3 7; omega
  · split
    · simp; omega
    · rw [List.length_append, orF_len]; have := h3 (if should f mx = true then 6 else 4); omega
theorem meth (k : Nat) (w : World) : (method 260 41 (.pointer (some ⟨k, 0, none⟩)) "Write").run Tryd.prog w = .ok (92, .pointer (some ⟨k, 0, none⟩)) w := by kernel_rfl
def WriteRet (w : World) (e k : Nat) (T : Tab) (v : Value) (m1 m2 mx : Nat) (bv sv : Value) (out : List UInt8) (en : Ending) (w' : World) : Prop :=
  ∃ v' bv' sv' l', en = .returned .nilIface ∧ SendRep w' e k T v' m1 m2 mx 4294967295 false bv' sv' out l' ∧ Kept (sendSet e k v m1 m2 bv sv) w w' ∧ NewBlk w v v' ∧ NewBlk w bv bv' ∧ NewBlk w sv sv'

theorem SendRep.cut0 {w : World} {e k : Nat} {T : Tab} {v : Value} {m1 m2 mx mn : Nat} {upd : Bool} {p : Option Addr} {n c : Nat} {sv : Value} {sent l : List UInt8} (h : SendRep w e k T v m1 m2 mx mn upd (.slice p n c) sv sent l) :
    SendRep (w.setCell ⟨e, 12, none⟩ (.slice p 0 c)) e k T v m1 m2 mx mn upd (.slice p 0 c) sv sent [] ∧ Kept [e] w (w.setCell ⟨e, 12, none⟩ (.slice p 0 c)) := by
  have hown : Bts w (.slice p 0 c) [] := by
    rcases h.buf.2 with ⟨hv, h0⟩ | ⟨g, cap, cur, hv, h0, hg, h1, h2, h3, h4⟩
    · cases hv; exact World.ownsRow_nil w 0 5 1
    · cases hv
      exact ⟨rfl, .inr ⟨g, c, cur, rfl, h0, hg, Nat.zero_le _, h2, h3, by simp [bc]⟩⟩
  have h0 : SendRep w e k T v m1 m2 mx mn upd (.slice p n c) sv sent l := h
  have kk : Kept [e] w (w.setCell ⟨e, 12, none⟩ (.slice p 0 c)) := (Kept.refl _ _).setCell (by simp) _
  obtain ⟨⟨n1, n2, n3, n4, n5⟩, ⟨n6, n7, n8, n9, n10⟩, n11, n12, n13, n14⟩ := h.ne
  have ob : (Value.slice p 0 c).ownBlock = (Value.slice p n c).ownBlock := by cases p <;> rfl
  refine ⟨⟨⟨h.tab.blk.set 12 _, ownsRow_kept h.tab.row kk (by intro g hg; simp; intro e'; exact h.tab.vb (by rw [hg, e'])), ?_, h.tab.ne, h.tab.vb⟩, ownsRow_kept hown kk (by intro g hg; rw [ob] at hg; simp; intro e'; exact n1 (by rw [hg, e'])), h.sink.kept kk (by simpa using n11), ownsRow_kept h.srow kk (by intro g hg; simp; intro e'; exact n6 (by rw [hg, e'])), by rw [ob]; exact h.bs⟩, kk⟩
  obtain ⟨al1, al2, A1, A2, LL⟩ := h.tab.maps
  exact ⟨al1, al2, A1.kept kk (by simpa using fun e' => h.tab.b_m1 e'.symm), A2.kept kk (by simpa using fun e' => h.tab.b_m2 e'.symm), LL⟩

theorem SendRep.setUpd {w : World} {e k : Nat} {T : Tab} {v : Value} {m1 m2 mx mn : Nat} {upd : Bool} {bv sv : Value} {sent l : List UInt8} (h : SendRep w e k T v m1 m2 mx mn upd bv sv sent l) (b : Bool) :
    SendRep (w.setCell ⟨e, 10, none⟩ (.bool b)) e k T v m1 m2 mx mn b bv sv sent l ∧ Kept [e] w (w.setCell ⟨e, 10, none⟩ (.bool b)) := by
  have kk : Kept [e] w (w.setCell ⟨e, 10, none⟩ (.bool b)) := (Kept.refl _ _).setCell (by simp) _
  obtain ⟨⟨n1, n2, n3, n4, n5⟩, ⟨n6, n7, n8, n9, n10⟩, n11, n12, n13, n14⟩ := h.ne
  refine ⟨⟨⟨h.tab.blk.set 10 _, ownsRow_kept h.tab.row kk (by intro g hg; simp; intro e'; exact h.tab.vb (by rw [hg, e'])), ?_, h.tab.ne, h.tab.vb⟩, ownsRow_kept h.buf kk (by intro g hg; simp; intro e'; exact n1 (by rw [hg, e'])), h.sink.kept kk (by simpa using n11), ownsRow_kept h.srow kk (by intro g hg; simp; intro e'; exact n6 (by rw [hg, e'])), h.bs⟩, kk⟩
  obtain ⟨al1, al2, A1, A2, LL⟩ := h.tab.maps
  exact ⟨al1, al2, A1.kept kk (by simpa using fun e' => h.tab.b_m1 e'.symm), A2.kept kk (by simpa using fun e' => h.tab.b_m2 e'.symm), LL⟩
theorem SendRep.setMn {w : World} {e k : Nat} {T : Tab} {v : Value} {m1 m2 mx mn : Nat} {upd : Bool} {bv sv : Value} {sent l : List UInt8} (h : SendRep w e k T v m1 m2 mx mn upd bv sv sent l) (n : Nat) :
    SendRep (w.setCell ⟨e, 8, none⟩ (.int .u32 n)) e k T v m1 m2 mx n upd bv sv sent l ∧ Kept [e] w (w.setCell ⟨e, 8, none⟩ (.int .u32 n)) := by
  have kk : Kept [e] w (w.setCell ⟨e, 8, none⟩ (.int .u32 n)) := (Kept.refl _ _).setCell (by simp) _
  obtain ⟨⟨n1, n2, n3, n4, n5⟩, ⟨n6, n7, n8, n9, n10⟩, n11, n12, n13, n14⟩ := h.ne
  refine ⟨⟨⟨h.tab.blk.set 8 _, ownsRow_kept h.tab.row kk (by intro g hg; simp; intro e'; exact h.tab.vb (by rw [hg, e'])), ?_, h.tab.ne, h.tab.vb⟩, ownsRow_kept h.buf kk (by intro g hg; simp; intro e'; exact n1 (by rw [hg, e'])), h.sink.kept kk (by simpa using n11), ownsRow_kept h.srow kk (by intro g hg; simp; intro e'; exact n6 (by rw [hg, e'])), h.bs⟩, kk⟩
  obtain ⟨al1, al2, A1, A2, LL⟩ := h.tab.maps
  exact ⟨al1, al2, A1.kept kk (by simpa using fun e' => h.tab.b_m1 e'.symm), A2.kept kk (by simpa using fun e' => h.tab.b_m2 e'.symm), LL⟩

set_option maxRecDepth 100000 in
set_option maxHeartbeats 4000000 in
theorem write_any (e k : Nat) (T : Tab) (v : Value) (m1 m2 mx mn : Nat) (upd : Bool) (bv sv : Value) (sent lb : List UInt8) (f : Fld) (w : World) (h : SendRep w e k T v m1 m2 mx mn upd bv sv sent lb) (hok : TOk T mx) (hg : Glob w)
    (h4 : 4 ∉ sendSet e k v m1 m2 bv sv) (h5 : 5 ∉ sendSet e k v m1 m2 bv sv) (hmn : upd = true → mn = mx) (hmn2 : upd = false → mn = 4294967295) (hf : f.name.size + f.value.size ≤ 2100000) (hs : sent.length ≤ 4100000000) :
    Calls Tryd.prog 17 #[.pointer (some ⟨e, 0, none⟩), .agg #[.string f.name, .string f.value, .bool f.sens]] w
      (WriteRet w e k (nextTab f T mx) v m1 m2 mx bv sv (sent ++ (updB upd mx ++ encField f T mx))) := by
  obtain ⟨pb, cb, hbv, hcb, hmb⟩ := ownsRow_slice h.buf
  subst hbv
  have hob : ∀ n, (Value.slice pb n cb).ownBlock = (Value.slice pb lb.length cb).ownBlock := by intro n; cases pb <;> rfl
  go_enter Tryd.func17, Tryd.ntmps17
  go_upto_region 1 with (fail)
  generalize hw1 : w.alloc _ = w1
  obtain ⟨k1, X1, hx1⟩ := box_cells (l := fc f) hw1
  have h1 := h.kept0 k1
  have g1 := hg.kept k1 (by simp) (by simp)
  have hxn : ∀ x, x ∈ sendSet e k v m1 m2 (.slice pb lb.length cb) sv → x < w.heap.size := by
    intro x hx
    obtain ⟨al1, al2, a1, a2, _⟩ := h.tab.maps
    simp [sendSet, tset] at hx
    rcases hx with hx | hx | hx | hx | hx | hx | hx
    · rw [hx]; exact h.sink.lt
    · rw [hx]; exact h.tab.blk.lt
    · rw [hx]; exact a1.lt
    · rw [hx]; exact a2.lt
    · exact (h.tab.row.lt _ hx).2
    · exact (h.buf.lt _ hx).2
    · exact (h.srow.lt _ hx).2
  have hxn2 : w.heap.size ∉ sendSet e k v m1 m2 (.slice pb lb.length cb) sv := fun hx => by have := hxn _ hx; omega
  generalize hxe : w.heap.size = xb at X1 hx1 hxn hxn2 ⊢
  have HX := Lib.hid hxe; clear hxe
  have HW := Lib.hid hw1; clear hw1
  have c12 := h1.tab.blk.cell 12 rfl
  have f12 := h1.tab.blk.frozen 12
  go_upto_region 2 with (fail)
  obtain ⟨h2, k2⟩ := h1.cut0
  clear c12 f12
  have hex : e ∈ sendSet e k v m1 m2 (.slice pb lb.length cb) sv := by simp [sendSet, tset]
  have hxe : xb ≠ e := fun e' => hxn2 (by rw [e']; exact hex)
  have X2 := X1.kept k2 (by simpa using hxe)
  have g2 := g1.kept k2 (by simp; intro e'; exact h4 (by rw [e']; exact hex)) (by simp; intro e'; exact h5 (by rw [e']; exact hex))
  generalize hw2 : w1.setCell _ _ = w2 at h2 k2 X2 g2 ⊢
  have HW2 := Lib.hid hw2; clear hw2
  have c10 := h2.tab.blk.cell 10 rfl
  obtain ⟨pre, hpre⟩ : ∃ pre, updB upd mx = pre := ⟨_, rfl⟩
  have HP := Lib.hid hpre; clear hpre
  go_upto_if 21 with (fail)
  clear c10
  go_cut [0, 3] (fun s0 s3 wx => s0 = .pointer (some ⟨e, 0, none⟩) ∧ s3 = .pointer (some ⟨xb, 0, none⟩) ∧ ∃ bv', SendRep wx e k T v m1 m2 mx 4294967295 false bv' sv sent pre ∧ Kept (e :: (Value.slice pb 0 cb).ownBlock.toList) w2 wx ∧ NewBlk w2 (.slice pb 0 cb) bv')
  case first =>
    cases upd
    · have hm := hmn2 rfl
      subst hm
      have hp : pre = [] := by rw [← HP.out]; rfl
      subst hp
      go_wp2_with fail
      go_meet
      case rel => exact ⟨rfl, rfl, _, h2, Kept.refl _ _, .inl rfl⟩
    · have hm := hmn rfl
      subst hm
      have hp : orF 32 (vi 5 mn) = pre := HP.out
      have c10 := h2.tab.blk.cell 10 rfl
      have f10 := h2.tab.blk.frozen 10
      go_upto_region 4 with (fail)
      obtain ⟨h3, k3⟩ := h2.setUpd false
      generalize hw3 : w2.setCell _ _ = w3 at h3 k3 ⊢
      have HW3 := Lib.hid hw3; clear hw3
      clear c10 f10
      have c8 := h3.tab.blk.cell 8 rfl
      have c6 := h3.tab.blk.cell 6 rfl
      have b1 : decide ((mn : Int) < (mn : Int)) = false := by simp
      go_quiet (fail)
      have f8 := h3.tab.blk.frozen 8
      go_upto_region 7 with (fail)
      obtain ⟨h6, k6⟩ := (h3.kept0 ((Kept.refl [] w3).drewN nq)).setMn 4294967295
      generalize hw6 : (w3.drewN nq).setCell _ _ = w6 at h6 k6 ⊢
      have HW6 := Lib.hid hw6; clear hw6
      clear c8 c6 f8
      have c12 := h6.tab.blk.cell 12 rfl
      have c6 := h6.tab.blk.cell 6 rfl
      have f12 := h6.tab.blk.frozen 12
      have hmx := hok.mx
      go_region_with ((go_at_call 28; refine (size_upd_any (.slice pb 0 cb) [] mn _ (h6.kept0 ((Kept.refl [] w6).drew)).buf (by omega) (by simp)).mono ?_; rintro en w7 ⟨bv7, rfl, ha⟩; obtain ⟨p7, n7, c7, rfl⟩ := ha.isSlice; have B7 := (h6.kept0 ((Kept.refl [] w6).drew)).tab.blk.kept ha.kept (by simpa using fun e' => (h6.ne).1.1 e'); have f12'' := B7.frozen 12; have c12'' := B7.cell 12 rfl))
      all_goals
        go_wp2_with fail
        go_meet
        case rel =>
          obtain ⟨h8, k8⟩ := (h6.kept0 ((Kept.refl [] w6).drew)).app ha
          rw [List.nil_append, hp] at h8
          have kk : Kept (e :: (Value.slice pb 0 cb).ownBlock.toList) w2 w6 := ((k3.mono (by simp)).drewN nq).step k6 (by simp)
          refine ⟨rfl, rfl, _, h8, (kk.drew).trans k8, ?_⟩
          exact ha.blk.of_later (by have := kk.size; simpa using this)
  case rest =>
    obtain ⟨rfl, rfl, bv', h3, k3, N3'⟩ := hcut
    have N3 := Lib.hid N3'; clear N3' hmn hmn2
    have hbx : (Value.slice pb 0 cb).ownBlock ≠ some xb := fun e' => hxn2 (by rw [hob] at e'; simp [sendSet, e'])
    have hb4 : (Value.slice pb 0 cb).ownBlock ≠ some 4 := fun e' => h4 (by rw [hob] at e'; simp [sendSet, e'])
    have hb5 : (Value.slice pb 0 cb).ownBlock ≠ some 5 := fun e' => h5 (by rw [hob] at e'; simp [sendSet, e'])
    have he4 : ¬ 4 = e := fun e' => h4 (by rw [e']; exact hex)
    have he5 : ¬ 5 = e := fun e' => h5 (by rw [e']; exact hex)
    have X3 := X2.kept k3 (by simp; exact ⟨hxe, fun e' => hbx e'⟩)
    have g3 := g2.kept k3 (by simp; exact ⟨he4, fun e' => hb4 e'⟩) (by simp; exact ⟨he5, fun e' => hb5 e'⟩)
    have x0 := X3.cell 0 rfl
    have x1 := X3.cell 1 rfl
    have x2 := X3.cell 2 rfl
    have hTl := hok.len
    have HT := Lib.hid hTl; clear hTl
    obtain ⟨S, hS⟩ : ∃ S, searchAll f T = S := ⟨_, rfl⟩
    obtain ⟨idx, mt⟩ := S
    go_upto_region 9 with ((go_at_call 29; refine (search_any e T v m1 m2 _ 74 f _ h3.tab (by have := HT.out; omega)).mono ?_; rw [hS]; rintro en w4 ⟨rfl, k4⟩))
    have h5' := h3.kept0 k4
    have X4 := X3.kept k4 (by simp)
    have g4 := g3.kept k4 (by simp) (by simp)
    have hil : idx < 4294967296 := by
      have h1 := searchSt_le f
      have h2 := searchDyn_le f T
      have h3 : (searchAll f T).1 ≤ T.ents.length + 61 := by
        unfold searchAll; split
        · simp; omega
        · split
          · simp; omega
          · simp; omega
      rw [hS] at h3
      have := HT.out
      simp at h3; omega
    have hvl := vi_len 5 mx (by have := hok.mx; omega)
    have hpl : pre.length ≤ 6 := by rw [← HP.out]; unfold updB; split; rw [orF_len]; exact hvl; simp
    clear x0 x1 x2
    go_upto_if 69 with (fail)
    go_cut [0] (fun s0 wx => s0 = .pointer (some ⟨e, 0, none⟩) ∧ ∃ v' bv'', SendRep wx e k (nextTab f T mx) v' m1 m2 mx 4294967295 false bv'' sv sent (pre ++ encField f T mx) ∧ Kept (tset e v m1 m2 ++ bv'.ownBlock.toList) w4 wx ∧ NewBlk w4 v v' ∧ NewBlk w4 bv' bv'')
    case first =>
      cases mt
      · have hnt : nextTab f T mx = if should f mx = true then fit mx ⟨T.ents ++ [f], T.ev⟩ else T := by simp only [nextTab, hS]; rfl
        have hef : encField f T mx = if idx = 0 then b8 (typeByte (should f mx) f.sens) :: (encStr f.name ++ encStr f.value) else orF (typeByte (should f mx) f.sens) (vi (if should f mx = true then 6 else 4) idx) ++ encStr f.value := by simp only [encField, hS]; rfl
        have hsd : should f mx = true → f.sens = false := by intro h; unfold should at h; simp at h; exact h.1
        obtain ⟨ix, hix⟩ : ∃ ix, should f mx = ix := ⟨_, rfl⟩
        rw [hix] at hnt hef hsd
        have HNT := Lib.hid hnt; clear hnt
        have HEF := Lib.hid hef; clear hef
        have HSD := Lib.hid hsd; clear hsd
        have x0 := X4.cell 0 rfl
        have x1 := X4.cell 1 rfl
        have x2 := X4.cell 2 rfl
        have c6 := h5'.tab.blk.cell 6 rfl
        go_upto_if 82 with ((go_at_call 31; refine (should_any e mx f _ c6 (by omega)).mono ?_; rw [hix]; rintro en w5 ⟨rfl, k5⟩))
        have HIX := Lib.hid hix; clear hix
        have h6 := h5'.kept0 k5
        have X5 := X4.kept k5 (by simp)
        have g5 := g4.kept k5 (by simp) (by simp)
        clear x0 x1 x2 c6
        go_cut [0, 3, 5, 7] (fun s0 s3 s5 s7 wx => s0 = .pointer (some ⟨e, 0, none⟩) ∧ s3 = .pointer (some ⟨xb, 0, none⟩) ∧ s5 = .int .u64 idx ∧ s7 = .bool ix ∧ ∃ v', SendRep wx e k (nextTab f T mx) v' m1 m2 mx 4294967295 false bv' sv sent pre ∧ Kept (tset e v m1 m2) w5 wx ∧ NewBlk w5 v v')
        case first =>
          cases ix
          · have ht : nextTab f T mx = T := by rw [HNT.out]; rfl
            have HTT := Lib.hid ht; clear ht
            go_wp2_with fail
            go_meet
            case rel => exact ⟨rfl, rfl, rfl, rfl, v, by rw [HTT.out]; exact h6, Kept.refl _ _, .inl rfl⟩
          · have ht : nextTab f T mx = fit mx ⟨T.ents ++ [f], T.ev⟩ := by rw [HNT.out]; rfl
            have HTT := Lib.hid ht; clear ht
            have x0 := X5.cell 0 rfl
            have x1 := X5.cell 1 rfl
            have x2 := X5.cell 2 rfl
            have hfz : fsz f = f.name.size + f.value.size + 32 := rfl
            have hsum : tsz T.ents + fsz f < 4294967296 := by have := hok.sz; have := hok.mx; omega
            have hFB : FBound (f :: T.ents) := by intro g hg; simp at hg; rcases hg with rfl | hg; omega; exact hok.fb g hg
            have HS := Lib.hid hsum; clear hsum hfz
            go_upto_region 13 with (fail)
            go_region_with ((go_at_call 32; refine (add_dyn e T v m1 m2 mx f _ 74 _ (by exact (h6.kept0 ((Kept.refl [] w5).drew)).tab) (by have := HT.out; omega) HS.out hFB).mono ?_; rintro en w7 ⟨v7, rfl, R7, K7, N7⟩))
            all_goals
              go_wp2_with fail
              go_meet
              case rel =>
                refine ⟨rfl, rfl, rfl, rfl, v7, ?_, ((Kept.refl _ w5).drew).trans K7, N7.of_later (by simp)⟩
                rw [HTT.out]; exact (h6.kept0 ((Kept.refl [] w5).drew)).newTab K7 R7
        case rest =>
          obtain ⟨rfl, rfl, rfl, rfl, v', h7, k7, N7⟩ := hcut
          replace N7 := Lib.hid N7
          have X7 := X5.kept k7 (fun hx => hxn2 (by simp [sendSet] at hx ⊢; simp [hx]))
          have g7 := g5.kept k7 (fun hx => h4 (by simp [sendSet] at hx ⊢; simp [hx])) (fun hx => h5 (by simp [sendSet] at hx ⊢; simp [hx]))
          have o4 : bv'.ownBlock ≠ some 4 := N3.out.ne hb4 g2.lt.1
          have o5 : bv'.ownBlock ≠ some 5 := N3.out.ne hb5 g2.lt.2
          have oe := h7.ne.1.1
          have c12 := h7.tab.blk.cell 12 rfl
          have f12 := h7.tab.blk.frozen 12
          have x0 := X7.cell 0 rfl
          have x1 := X7.cell 1 rfl
          have x2 := X7.cell 2 rfl
          have k47 : Kept (tset e v m1 m2 ++ bv'.ownBlock.toList) w4 wc := (k5.mono (by simp)).step k7 (by intro q hq; left; simp [hq])
          have hs47 : w4.heap.size ≤ wc.heap.size := k47.size
          have hs45 : w4.heap.size ≤ w5.heap.size := k5.size
          have N47 := Lib.hid (N7.out.of_later hs45)
          by_cases hi0 : idx = 0
          · subst hi0
            have hef : encField f T mx = b8 (typeByte ix f.sens) :: (encStr f.name ++ encStr f.value) := by rw [HEF.out]; rfl
            have HE := Lib.hid hef; clear hef
            go_upto_region 15 with (fail)
            go_region_with ((go_at_call 33; refine (app_new bv' pre f ix _ (g7.kept ((Kept.refl [] wc).drew) (by simp) (by simp)) o4 o5 (h7.kept0 ((Kept.refl [] wc).drew)).buf (by omega) (by omega)).mono ?_; rintro en w8 ⟨bv8, rfl, ha⟩; obtain ⟨p7, n7, c7, rfl⟩ := ha.isSlice; have B7 := (h7.kept0 ((Kept.refl [] wc).drew)).tab.blk.kept ha.kept (by simpa using fun e' => oe e'); have f12'' := B7.frozen 12; have c12'' := B7.cell 12 rfl))
            all_goals
              go_wp2_with fail
              go_meet
              case rel =>
                obtain ⟨h9, k9⟩ := (h7.kept0 ((Kept.refl [] wc).drew)).app ha
                rw [← HE.out] at h9
                exact ⟨rfl, v', _, h9, (k47.drew).step k9 (by intro q hq; left; simp [tset] at hq ⊢; rcases hq with hq | hq <;> simp [hq]), N47.out, ha.blk.of_later (by simpa using hs47)⟩
          · have hef : encField f T mx = orF (typeByte ix f.sens) (vi (if ix = true then 6 else 4) idx) ++ encStr f.value := by rw [HEF.out, if_neg hi0]
            have HE := Lib.hid hef; clear hef
            have bi : ((idx : Int) == 0) = false := by simp; omega
            go_upto_region 16 with (fail)
            go_region_with ((go_at_call 34; refine (app_named bv' pre f idx ix _ (g7.kept ((Kept.refl [] wc).drew) (by simp) (by simp)) o4 o5 (h7.kept0 ((Kept.refl [] wc).drew)).buf (by omega) hil (by omega) HSD.out).mono ?_; rintro en w8 ⟨bv8, rfl, ha⟩; obtain ⟨p7, n7, c7, rfl⟩ := ha.isSlice; have B7 := (h7.kept0 ((Kept.refl [] wc).drew)).tab.blk.kept ha.kept (by simpa using fun e' => oe e'); have f12'' := B7.frozen 12; have c12'' := B7.cell 12 rfl))
            all_goals
              go_wp2_with fail
              go_meet
              case rel =>
                obtain ⟨h9, k9⟩ := (h7.kept0 ((Kept.refl [] wc).drew)).app ha
                rw [← HE.out] at h9
                exact ⟨rfl, v', _, h9, (k47.drew).step k9 (by intro q hq; left; simp [tset] at hq ⊢; rcases hq with hq | hq <;> simp [hq]), N47.out, ha.blk.of_later (by simpa using hs47)⟩
      · have hnt : nextTab f T mx = T := by simp only [nextTab, hS]; rfl
        have hef : encField f T mx = orF 128 (vi 7 idx) := by simp only [encField, hS]; rfl
        have HNT := Lib.hid hnt; clear hnt
        have HEF := Lib.hid hef; clear hef
        have HSS := Lib.hid hS; clear hS
        have c12 := h5'.tab.blk.cell 12 rfl
        have f12 := h5'.tab.blk.frozen 12
        have oe := h5'.ne.1.1
        go_wp2_with ((go_at_call 30; refine (app_indexed bv' pre idx _ h5'.buf hil (by omega)).mono ?_; rintro en w8 ⟨bv8, rfl, ha⟩; obtain ⟨p7, n7, c7, rfl⟩ := ha.isSlice; have B7 := h5'.tab.blk.kept ha.kept (by simpa using fun e' => oe e'); have f12'' := B7.frozen 12; have c12'' := B7.cell 12 rfl))
        go_meet
        case rel =>
          obtain ⟨h9, k9⟩ := h5'.app ha
          rw [← HEF.out] at h9
          exact ⟨rfl, v, _, by rw [HNT.out]; exact h9, k9.mono (by intro q hq; simp [tset] at hq ⊢; rcases hq with hq | hq <;> simp [hq]), .inl rfl, ha.blk⟩
    case rest =>
      obtain ⟨rfl, v', bv'', h8, k8, N8v, N8b⟩ := hcut
      replace N8v := Lib.hid N8v
      replace N8b := Lib.hid N8b
      have c11 := h8.tab.blk.cell 11 rfl
      have c12 := h8.tab.blk.cell 12 rfl
      go_upto_region 17 with (fail)
      have hel := encField_len f T mx (by rw [hS]; exact hil) (by omega)
      have hlen : sent.length + (pre ++ encField f T mx).length ≤ 4294967296 := by rw [List.length_append]; omega
      obtain ⟨pq, cq, hbq, _⟩ := ownsRow_slice h8.buf
      obtain ⟨nl, hnl⟩ : ∃ nl, (pre ++ encField f T mx).length = nl := ⟨_, rfl⟩
      rw [hnl] at hbq
      subst hbq
      have HLN := Lib.hid hlen; clear hlen
      have HNL := Lib.hid hnl; clear hnl
      have hmeth := fun w => meth k w
      go_region_with ((go_at_call 92; refine (sink_any k sv _ sent (pre ++ encField f T mx) _ (h8.kept0 ((Kept.refl [] wc).drew)).sink (h8.kept0 ((Kept.refl [] wc).drew)).srow (h8.kept0 ((Kept.refl [] wc).drew)).buf HLN.out).mono ?_; rw [HNL.out]; rintro en w9 ⟨sv9, rfl, hB9, hs9, k9, N9⟩; replace N9 := Lib.hid N9))
      all_goals
        have h10 := (h8.kept0 ((Kept.refl [] wc).drew)).sentTo hB9 hs9 k9 N9.out
        have d12 := h10.tab.blk.cell 12 rfl
        go_wp2_with fail
        go_ret
        have K4 : Kept (sendSet e k v m1 m2 (.slice pb lb.length cb) sv) w w4 := by
          refine ((((k1.mono (by simp)).step k2 ?_).step k3 ?_).step k4 (by simp))
          · intro q hq; left; simp at hq; rw [hq]; exact hex
          · intro q hq; left; rw [hob] at hq; simp [sendSet, tset] at hq ⊢; rcases hq with hq | hq <;> simp [hq]
        have hsz : w.heap.size ≤ w2.heap.size := Nat.le_trans k1.size k2.size
        have K8 := (K4.step k8 (by
          intro q hq
          rw [List.mem_append] at hq
          rcases hq with hq | hq
          · left; simp [sendSet, hq]
          · have hq' : bv'.ownBlock = some q := by simpa using hq
            rcases N3.out with e' | ⟨g', e', hg'⟩
            · left; rw [e', hob] at hq'; simp [sendSet, hq']
            · right; rw [e'] at hq'; cases hq'; omega)).drew
        have hsz4 := K4.size
        have hsz8 := K8.size
        refine ⟨v', .slice pq nl cq, sv9, pre ++ encField f T mx, rfl, ?_, K8.step k9 ?_, N8v.out.of_later hsz4, ?_, N9.out.of_later hsz8⟩
        · rw [HP.out]; exact h10
        · intro q hq; left; simp [sendSet] at hq ⊢; rcases hq with hq | hq <;> simp [hq]
        · have a1 : NewBlk w (.slice pb lb.length cb) bv' := by
            rcases N3.out with e' | ⟨g', e', hg'⟩
            · left; rw [e', hob]
            · right; exact ⟨g', e', by omega⟩
          exact a1.trans N8b.out hsz4
end Go.Proofs.YtoceghdnipjkfaaDoor
