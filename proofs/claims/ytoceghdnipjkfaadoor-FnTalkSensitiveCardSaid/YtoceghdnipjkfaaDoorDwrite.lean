/-
  Decoder.Write reads all that was written; Decoder.Close.
-/
import Derived.Test.YtoceghdnipjkfaaDoorDstep
namespace Go.Proofs.YtoceghdnipjkfaaDoor
open Go.RowKit
attribute [local irreducible] st

theorem buflen0 (b o : Nat) (w : World) (c0 : w.cell? ⟨b, o, none⟩ = some (.slice none 0 0)) (c1 : w.cell? ⟨b, o + 1, none⟩ = some (.int .i64 0)) :
    Calls Tryd.prog 35 #[.pointer (some ⟨b, o, none⟩)] w fun e w' => e = .returned (.int .i64 0) ∧ Kept [] w w' :=
  buflen_any b o none 0 0 0 w c0 c1 (Nat.le_refl _) (by decide)
/-- errNeedMore, wherever it lies -/
def ErrAt (w : World) : Prop := ∃ t a, w.cell? ⟨1, 0, none⟩ = some (.iface t (.pointer (some a)))
theorem ErrAt.kept {S : List Nat} {w w' : World} (h : ErrAt w) (hk : Kept S w w') (h1 : 1 ∉ S) : ErrAt w' := by
  obtain ⟨t, a, h⟩ := h; exact ⟨t, a, hk.cell h h1⟩

theorem decSet_sub {w : World} {d : Nat} {v v1 : Value} {m1 m2 hb : Nat} {hv hv1 : Value} (n1 : NewBlk w v v1) (n2 : NewBlk w hv hv1) {q : Nat} (hq : q ∈ decSet d v1 m1 m2 hb hv1) : q ∈ decSet d v m1 m2 hb hv ∨ w.heap.size ≤ q := by
  simp [decSet, tset] at hq ⊢
  rcases hq with hq | hq | hq | hq | hq | hq
  · simp [hq]
  · simp [hq]
  · simp [hq]
  · simp [hq]
  · rcases n1 with e | ⟨g', e, hg'⟩
    · rw [e] at hq; simp [hq]
    · rw [e] at hq; cases hq; simp [hg']
  · rcases n2 with e | ⟨g', e, hg'⟩
    · rw [e] at hq; simp [hq]
    · rw [e] at hq; cases hq; simp [hg']
theorem decSet_not {w : World} {d : Nat} {v v1 : Value} {m1 m2 hb : Nat} {hv hv1 : Value} (n1 : NewBlk w v v1) (n2 : NewBlk w hv hv1) {q : Nat} (hn : q ∉ decSet d v m1 m2 hb hv) (hq : q < w.heap.size) : q ∉ decSet d v1 m1 m2 hb hv1 := by
  intro h; rcases decSet_sub n1 n2 h with h | h
  · exact hn h
  · omega
def bufLen (d : Nat) (w : World) : Nat := match w.cell? ⟨d, 11, none⟩ with | some v => sliceLen v | none => 0
theorem DecRep.bufLen {w : World} {d : Nat} {T : Tab} {v : Value} {m1 m2 mx : Nat} {p : Option Addr} {n c : Nat} {first : Bool} {hb : Nat} {hv : Value} {l : List Fld} (h : DecRep w d T v m1 m2 mx (.slice p n c) first hb hv l) : YtoceghdnipjkfaaDoor.bufLen d w = n := by
  unfold YtoceghdnipjkfaaDoor.bufLen
  rw [h.tab.blk.cell 11 rfl]; rfl
theorem RdV.slice {w : World} {g : Nat} {v : Value} {l : List UInt8} (h : RdV w g v l) : ∃ p cap, v = .slice p l.length cap := by
  obtain ⟨off, cap, e, _⟩ := h; exact ⟨_, _, e⟩
def WrRel (w : World) (d : Nat) (m1 m2 hb : Nat) (v hv : Value) (g : Nat) (T' : Tab) (mx' : Nat) (l' : List Fld) (a5 : Value) (wr : World) : Prop :=
  a5 = .nilIface ∧ ∃ bytes T mx l first v1 hv1 p cap, DecRep wr d T v1 m1 m2 mx (.slice p bytes.length cap) first hb hv1 l ∧ RdV wr g (.slice p bytes.length cap) bytes ∧ Can bytes T mx l first T' mx' l' ∧ Kept (decSet d v m1 m2 hb hv) w wr ∧ NewBlk w v v1 ∧ NewBlk w hv hv1
def WriteRet2 (w : World) (d : Nat) (m1 m2 hb : Nat) (v hv : Value) (T' : Tab) (mx' : Nat) (l' : List Fld) (n : Nat) (e : Ending) (w' : World) : Prop :=
  ∃ bv' v' hv' first, e = .returned (.tuple #[.int .i64 n, .nilIface]) ∧ DecRep w' d T' v' m1 m2 mx' bv' first hb hv' l' ∧ Kept (decSet d v m1 m2 hb hv) w w' ∧ NewBlk w v v' ∧ NewBlk w hv hv'
theorem can_nil {bytes : List UInt8} {T : Tab} {mx : Nat} {l : List Fld} {first : Bool} {T' : Tab} {mx' : Nat} {l' : List Fld} (h : Can bytes T mx l first T' mx' l') (e : bytes.length = 0) : T' = T ∧ mx' = mx ∧ l' = l := by
  cases h with
  | done => exact ⟨rfl, rfl, rfl⟩
  | @size n rest T mx l T' mx' l' hn hok hc =>
    obtain ⟨b, r, hvi, _⟩ := vi_cons 5 n
    rw [List.length_append, orF_len, hvi] at e; simp at e
  | @field f rest T mx l first T' mx' l' hok hfs hl hrl hc =>
    have := encField_ne f T mx
    rw [List.length_append] at e; omega
theorem eql_nil_iface (t : TypeId) (a : Addr) (w : World) : (binOp .eql 54 .nilIface (.iface t (.pointer (some a)))).run Tryd.prog w = .ok (.bool false) w := by kernel_rfl
set_option maxRecDepth 100000 in
set_option maxHeartbeats 2000000 in
theorem write_dec (d : Nat) (T : Tab) (v : Value) (m1 m2 mx : Nat) (bv : Value) (hb : Nat) (hv : Value) (l : List Fld) (g : Nat) (pv : Value) (bytes : List UInt8) (T' : Tab) (mx' : Nat) (l' : List Fld) (w : World)
    (h : DecRep w d T v m1 m2 mx bv true hb hv l) (hr : RdV w g pv bytes) (hset : ∀ x, x ∈ g :: 1 :: 4 :: 5 :: [] → x ∉ decSet d v m1 m2 hb hv) (hgl : g < w.heap.size) (hgb : Glob w) (he : ErrAt w) (hc : Can bytes T mx l true T' mx' l') (hne : 0 < bytes.length) (hbl : bytes.length ≤ 8000000000) :
    Calls Tryd.prog 18 #[.pointer (some ⟨d, 0, none⟩), pv] w (WriteRet2 w d m1 m2 hb v hv T' mx' l' bytes.length) := by
  have hr0 := hr
  obtain ⟨off, cap, rfl, hle, hm, hrd⟩ := hr
  have HRD := Lib.hid hrd; clear hrd
  have HM := Lib.hid hm; clear hm
  generalize hN : bytes.length = N at *
  have HN := Lib.hid hN; clear hN
  have b0 : ((N : Int) == 0) = false := by simp; omega
  have HC := Lib.hid hc; clear hc
  have HS := Lib.hid hset; clear hset
  have c12 := h.tab.blk.cell 12 rfl
  have c13 := h.tab.blk.cell 13 rfl
  go_enter Tryd.func18, Tryd.ntmps18
  go_upto_region 3 with ((go_at_call 35; refine (buflen0 d 12 _ c12 c13).mono ?_; rintro e w1 ⟨rfl, K1⟩))
  have h1 := h.kept0 K1
  have r1 := hr0.kept K1 (by simp)
  clear c12 c13
  have f11 := h1.tab.blk.frozen 11
  have c11 := h1.tab.blk.cell 11 rfl
  go_wp2_with fail
  obtain ⟨h2, k2⟩ := h1.setBuf (.slice (some ⟨g, off, none⟩) N cap)
  have k02 : Kept (decSet d v m1 m2 hb hv) w (w1.setCell ⟨d, 11, none⟩ (.slice (some ⟨g, off, none⟩) N cap)) := (K1.mono (by simp)).trans (k2.mono (by intro q hq; simp at hq; simp [decSet, tset, hq]))
  have hgd : g ∉ [d] := by
    have := HS.out g (by simp)
    simp [decSet, tset] at this ⊢; exact this.2.1
  have r2 := r1.kept k2 hgd
  generalize hw2 : w1.setCell _ _ = w2 at h2 k2 k02 r2 ⊢
  have HW2 := Lib.hid hw2; clear hw2
  clear c11 f11
  go_loopw [5] (WrRel w d m1 m2 hb v hv g T' mx' l') (fun _ wr => bufLen d wr)
  case atStart => exact ⟨rfl, bytes, T, mx, l, true, v, hv, _, cap, by rw [HN.out]; exact h2, by rw [HN.out]; exact r2, HC.out, k02, .inl rfl, .inl rfl⟩
  case round =>
    obtain ⟨rfl, bytes1, T1, mx1, l1, first1, v1, hv1, p1, cap1, h3, r3, hc3, k3, n1, n2⟩ := hrel
    have hbl3 := h3.bufLen
    generalize hn3 : bytes1.length = n3 at h3 r3 hbl3
    have c11 := h3.tab.blk.cell 11 rfl
    have HC3 := Lib.hid hc3; clear hc3
    have N1 := Lib.hid n1; clear n1
    have N2 := Lib.hid n2; clear n2
    have H3 := Lib.hid hn3; clear hn3
    have HB3 := Lib.hid hbl3; clear hbl3
    by_cases h0 : 0 < n3
    · have hset1 : ∀ x, x ∈ g :: 1 :: 4 :: 5 :: [] → x < w.heap.size → x ∉ decSet d v1 m1 m2 hb hv1 := fun x hx hl => decSet_not N1.out N2.out (HS.out x hx) hl
      have hs3 := k3.size
      have hg4 := hgb.lt
      have he1 : 1 < w.heap.size := by omega
      have g3 := hgb.kept k3 (HS.out 4 (by simp)) (HS.out 5 (by simp))
      have e3 := he.kept k3 (HS.out 1 (by simp))
      have hgn := hset1 g (by simp) hgl
      have h1n := hset1 1 (by simp) he1
      have HSET1 := Lib.hid hset1; clear hset1
      go_upto_region 9 with ((go_at_call 39; refine (parse_any d T1 v1 m1 m2 mx1 _ first1 hb hv1 l1 g bytes1 T' mx' l' _ h3 r3 hgn (by omega) g3 HC3.out (by rw [H3.out]; exact h0)).mono ?_; rintro e w4 ⟨rest, T4, mx4, l4, hc4, hlt4, bv4, v4, hv4, rfl, h4, r4, K4, n14, n24⟩; obtain ⟨p4, cap4, hv4e⟩ := r4.slice; subst hv4e; have HC4 := Lib.hid hc4; clear hc4; replace n14 := Lib.hid n14; replace n24 := Lib.hid n24))
      obtain ⟨et, ea, e4⟩ := e3.kept K4 h1n
      clear c11
      have f15 := h4.tab.blk.frozen 15
      have c15 := h4.tab.blk.cell 15 rfl
      have HLT := Lib.hid hlt4; clear hlt4
      have hcmp := fun w => eql_nil_iface et ea w
      go_wp2_with fail
      obtain ⟨h5, k5⟩ := h4.setFirst false
      have hgd4 : g ∉ [d] := by
        simp [decSet, tset] at hgn ⊢; exact hgn.2.1
      have r5 := r4.kept k5 hgd4
      refine ⟨⟨rfl, rest, T4, mx4, l4, false, v4, hv4, p4, cap4, h5, r5, HC4.out, ?_, N1.out.trans n14.out hs3, N2.out.trans n24.out hs3⟩, ?_⟩
      · refine (k3.step K4 (fun q hq => decSet_sub N1.out N2.out hq)).step k5 ?_
        intro q hq; left; simp at hq; simp [decSet, tset, hq]
      · rw [h5.bufLen, HB3.out]
        have := HLT.out; have := H3.out; omega
    · have hn0 : ¬ 0 < n3 := h0
      have hz : bytes1 = [] := List.eq_nil_of_length_eq_zero (by have := H3.out; omega)
      go_wp2_with fail
      go_ret2
      obtain ⟨e1, e2, e3⟩ := can_nil HC3.out (by have := H3.out; omega)
      subst e1; subst e2; subst e3
      exact ⟨_, v1, hv1, first1, rfl, h3, k3, N1.out, N2.out⟩

set_option maxRecDepth 100000 in
set_option maxHeartbeats 1000000 in
theorem close_dec (d : Nat) (T : Tab) (v : Value) (m1 m2 mx : Nat) (bv : Value) (first : Bool) (hb : Nat) (hv : Value) (l : List Fld) (w : World) (h : DecRep w d T v m1 m2 mx bv first hb hv l) :
    Calls Tryd.prog 19 #[.pointer (some ⟨d, 0, none⟩)] w fun e w' => e = .returned .nilIface ∧ DecRep w' d T v m1 m2 mx bv true hb hv l ∧ Kept [d] w w' := by
  have c12 := h.tab.blk.cell 12 rfl
  have c13 := h.tab.blk.cell 13 rfl
  go_enter Tryd.func19, Tryd.ntmps19
  go_upto_region 4 with ((go_at_call 35; refine (buflen0 d 12 _ c12 c13).mono ?_; rintro e w1 ⟨rfl, K1⟩))
  have h1 := h.kept0 K1
  have f15 := h1.tab.blk.frozen 15
  have c15 := h1.tab.blk.cell 15 rfl
  clear c12 c13
  go_wp2_with fail
  go_ret
  obtain ⟨h2, k2⟩ := h1.setFirst true
  exact ⟨rfl, h2, (K1.mono (by simp)).trans k2⟩
end Go.Proofs.YtoceghdnipjkfaaDoor
