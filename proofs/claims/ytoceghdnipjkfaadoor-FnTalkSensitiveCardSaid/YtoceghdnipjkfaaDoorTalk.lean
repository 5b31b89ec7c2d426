/-
  Talk: one encoder speaks to one decoder, part by part.
-/
import Derived.Test.YtoceghdnipjkfaaDoorTrep
import Derived.Test.YtoceghdnipjkfaaDoorDwrite
namespace Go.Proofs.YtoceghdnipjkfaaDoor
open Go.RowKit
attribute [local irreducible] st

def TkRel (w0 : World) (ps : List PartD) (e k d hb m1 m2 m3 m4 : Nat) (a7 a29 : Value) (wr : World) : Prop :=
  ∃ ps1 ps2 ve vd hv bv sv bufv sent lb hd xs, ps = ps1 ++ ps2 ∧ a29 = .int .i64 (ps1.length : Nat) ∧
    TalkRep w0 wr e k d hb m1 m2 m3 m4 (state ps1).1 (state ps1).2 4294967295 false (state ps1).1 (state ps1).2 ve vd hv bv sv bufv a7 sent lb hd true xs (talk ps1)
theorem TkRel.intro {w0 : World} {ps : List PartD} {e k d hb m1 m2 m3 m4 : Nat} {a7 : Value} {wr : World} (ps1 ps2 : List PartD) {ve vd hv bv sv bufv : Value} {sent lb : List UInt8} {hd : List Fld} {xs : List (List Value)} {T : Tab} {mx : Nat} {ss : List SaidD} (n : Int)
    (h1 : ps = ps1 ++ ps2) (h2 : n = (ps1.length : Nat)) (h3 : state ps1 = (T, mx)) (h4 : talk ps1 = ss)
    (R : TalkRep w0 wr e k d hb m1 m2 m3 m4 T mx 4294967295 false T mx ve vd hv bv sv bufv a7 sent lb hd true xs ss) : TkRel w0 ps e k d hb m1 m2 m3 m4 a7 (.int .i64 n) wr := by
  refine ⟨ps1, ps2, ve, vd, hv, bv, sv, bufv, sent, lb, hd, xs, h1, by rw [h2], ?_⟩
  rw [h3, h4]; exact R
def TalkRet (w : World) (ps : List PartD) (e : Ending) (w' : World) : Prop :=
  ∃ v' xs, e = .returned v' ∧ Kept [] w w' ∧ w'.ownsRow 0 35 9 v' xs.length xs.flatten ∧ Saids w' (fun _ => False) xs (talk ps)

theorem talk_start {w w1 w2 w3 w4 : World} {k e hb d m1 m2 m3 m4 : Nat} (k1 : Kept [] w w1) (X1 : Blk w1 k [.slice none 0 0] 43) (hke : w.heap.size = k) (hee : w1.heap.size = e) (hm1 : e < m1) (hm2 : e < m2)
    (E2 : TabRep w2 e ⟨[], 0⟩ (.slice none 0 0) m1 m2 (encRest 0 4096 4294967295 false k (.slice none 0 0)) 74) (K2 : Kept [] w1 w2) (k3 : Kept [] w2 w3) (Y3 : Blk w3 hb [.slice none 0 0] 46) (hbe : w2.heap.size = hb) (hde : w3.heap.size = d) (hm3 : d < m3) (hm4 : d < m4)
    (D4 : TabRep w4 d ⟨[], 0⟩ (.slice none 0 0) m3 m4 (decRest 0 4096 hb (.slice none 0 0) true) 80) (K4 : Kept [] w3 w4) :
    TalkRep w w4 e k d hb m1 m2 m3 m4 ⟨[], 0⟩ 4096 4294967295 false ⟨[], 0⟩ 4096 (.slice none 0 0) (.slice none 0 0) (.slice none 0 0) (.slice none 0 0) (.slice none 0 0) (.slice none 0 0) (.slice none 0 0) [] [] [] true [] [] := by
  have nilb : (Value.slice none 0 0).ownBlock = none := rfl
  have hk := X1.lt
  have hy := Y3.lt
  have l1 : m1 < w2.heap.size := by obtain ⟨al1, al2, a1, a2, _⟩ := E2.maps; exact a1.lt
  have l2 : m2 < w2.heap.size := by obtain ⟨al1, al2, a1, a2, _⟩ := E2.maps; exact a2.lt
  have K24 := k3.trans K4
  have hs1 := k1.size
  have hs2 := K2.size
  have hs3 := k3.size
  refine ⟨⟨E2.kept K24 (by simp), World.ownsRow_nil _ 0 5 1, (X1.kept K2 (by simp)).kept K24 (by simp), World.ownsRow_nil _ 0 5 1, by simp [nilb]⟩, ⟨D4, Y3.kept K4 (by simp), World.ownsRow_nil _ 0 50 3, by simp [nilb]⟩, World.ownsRow_nil _ 0 35 9, ?_, by simp [nilb], ?_, trivial, ((k1.trans K2).trans K24)⟩
  · intro x hx hd
    simp [sendSet, decSet, tset, nilb] at hx hd
    omega
  · rintro x (hx | hx | hx)
    · simp [sendSet, tset, nilb] at hx; omega
    · simp [decSet, tset, nilb] at hx; omega
    · simp [nilb] at hx
theorem src_bts {W : World} {xv : Value} {l2 : List UInt8} (hown2 : Bts W xv l2) : Src Tryd.prog 1 31 xv l2.length (bc l2) W := by
  rcases hown2.2 with ⟨rfl, h0⟩ | ⟨g, cap, cur, rfl, _, hg, h1, h2, h3, h4⟩
  · rw [h0]
    have : l2 = [] := List.eq_nil_of_length_eq_zero h0
    subst this
    exact Src.ofNil W Tryd.underlying31 0
  · exact Src.ofSlice W Tryd.underlying31 _ _ cap (bc l2) (by rw [bc_length, Nat.mul_one]) (hown2.cells (g := g) rfl) (bc_one _)
/-- an answer begun: the bytes, the fields heard -/
def HalfSaid (w13 : World) (bytes : List UInt8) (fl : List Fld) (a16 : Value) (wx : World) : Prop :=
  ∃ xb p n c p' n' c', a16 = .pointer (some ⟨xb, 0, none⟩) ∧ w13.heap.size ≤ xb ∧ Blk wx xb [.slice p n c, .slice p' n' c', .bool true, .slice none 0 0, .int .i64 0, .int .i64 0, .slice none 0 0, .int .i64 0, .int .i64 0] 35 ∧
    Bts wx (.slice p n c) bytes ∧ wx.ownsRow 0 23 3 (.slice p' n' c') fl.length (fl.flatMap fc) ∧ Fresh w13 (.slice p n c) ∧ Fresh w13 (.slice p' n' c') ∧ Kept [] w13 wx
theorem half_said {w13 w : World} {bytes : List UInt8} {fl : List Fld} {p p' : Option Addr} {n c n' c' : Nat} (hk : Kept [] w13 w) (hb : Bts w (.slice p n c) bytes) (hf : w.ownsRow 0 23 3 (.slice p' n' c') fl.length (fl.flatMap fc)) (h1 : Fresh w13 (.slice p n c)) (h2 : Fresh w13 (.slice p' n' c')) :
    HalfSaid w13 bytes fl (.pointer (some ⟨w.heap.size, 0, none⟩)) (w.alloc (.cells #[.slice p n c, .slice p' n' c', .bool true, .slice none 0 0, .int .i64 0, .int .i64 0, .slice none 0 0, .int .i64 0, .int .i64 0] 35)) :=
  ⟨_, p, n, c, p', n', c', rfl, hk.size, Blk.new w [.slice p n c, .slice p' n' c', .bool true, .slice none 0 0, .int .i64 0, .int .i64 0, .slice none 0 0, .int .i64 0, .int .i64 0] 35, World.ownsRow.alloc hb _, World.ownsRow.alloc hf _, h1, h2, hk.alloc _⟩
theorem info35 : (Tryd.prog.info? 35).map (fun i => (i.zero, i.size, i.bytes)) = some (some (.agg #[.slice none 0 0, .slice none 0 0, .bool false, .slice none 0 0, .int .i64 0, .int .i64 0, .slice none 0 0, .int .i64 0, .int .i64 0]), 9, 136) := by kernel_rfl
def zl35 : List Value := [.slice none 0 0, .slice none 0 0, .bool false, .slice none 0 0, .int .i64 0, .int .i64 0, .slice none 0 0, .int .i64 0, .int .i64 0]
theorem half_set {w13 w : World} {bytes : List UInt8} {fl : List Fld} {p p' : Option Addr} {n c n' c' xb : Nat} (hk : Kept [] w13 w) (hx : w13.heap.size ≤ xb) (Z : Blk w xb zl35 35) (hb : Bts w (.slice p n c) bytes) (hf : w.ownsRow 0 23 3 (.slice p' n' c') fl.length (fl.flatMap fc)) (h1 : Fresh w13 (.slice p n c)) (h2 : Fresh w13 (.slice p' n' c')) :
    HalfSaid w13 bytes fl (.pointer (some ⟨xb, 0, none⟩)) (((((((((w.setCell ⟨xb, 0, none⟩ (.slice p n c)).setCell ⟨xb, 1, none⟩ (.slice p' n' c')).setCell ⟨xb, 2, none⟩ (.bool true)).setCell ⟨xb, 3, none⟩ (.slice none 0 0)).setCell ⟨xb, 4, none⟩ (.int .i64 0)).setCell ⟨xb, 5, none⟩ (.int .i64 0)).setCell ⟨xb, 6, none⟩ (.slice none 0 0)).setCell ⟨xb, 7, none⟩ (.int .i64 0)).setCell ⟨xb, 8, none⟩ (.int .i64 0)) := by
  have B := ((((((((Z.set 0 (.slice p n c)).set 1 (.slice p' n' c')).set 2 (.bool true)).set 3 (.slice none 0 0)).set 4 (.int .i64 0)).set 5 (.int .i64 0)).set 6 (.slice none 0 0)).set 7 (.int .i64 0)).set 8 (.int .i64 0)
  have kx : Kept [xb] w (((((((((w.setCell ⟨xb, 0, none⟩ (.slice p n c)).setCell ⟨xb, 1, none⟩ (.slice p' n' c')).setCell ⟨xb, 2, none⟩ (.bool true)).setCell ⟨xb, 3, none⟩ (.slice none 0 0)).setCell ⟨xb, 4, none⟩ (.int .i64 0)).setCell ⟨xb, 5, none⟩ (.int .i64 0)).setCell ⟨xb, 6, none⟩ (.slice none 0 0)).setCell ⟨xb, 7, none⟩ (.int .i64 0)).setCell ⟨xb, 8, none⟩ (.int .i64 0)) :=
    (((((((((Kept.refl [xb] w).setCell (by simp) _).setCell (by simp) _).setCell (by simp) _).setCell (by simp) _).setCell (by simp) _).setCell (by simp) _).setCell (by simp) _).setCell (by simp) _).setCell (by simp) _
  refine ⟨xb, p, n, c, p', n', c', rfl, hx, B, ownsRow_kept hb kx ?_, ownsRow_kept hf kx ?_, h1, h2, hk.step kx (by intro q hq; right; simp at hq; omega)⟩
  · intro g hg; simp; intro e; exact own_blk_ne hb Z (by decide) (by rw [hg, e])
  · intro g hg; simp; intro e; exact own_blk_ne hf Z (by decide) (by rw [hg, e])
theorem keep9 {w : World} {b i xb : Nat} {v : Value} (h : w.cell? ⟨b, i, none⟩ = some v) (hn : ¬ b = xb) (v0 v1 v2 v3 v4 v5 v6 v7 v8 : Value) :
    (((((((((w.setCell ⟨xb, 0, none⟩ v0).setCell ⟨xb, 1, none⟩ v1).setCell ⟨xb, 2, none⟩ v2).setCell ⟨xb, 3, none⟩ v3).setCell ⟨xb, 4, none⟩ v4).setCell ⟨xb, 5, none⟩ v5).setCell ⟨xb, 6, none⟩ v6).setCell ⟨xb, 7, none⟩ v7).setCell ⟨xb, 8, none⟩ v8).cell? ⟨b, i, none⟩ = some v := by
  have kx : Kept [xb] w (((((((((w.setCell ⟨xb, 0, none⟩ v0).setCell ⟨xb, 1, none⟩ v1).setCell ⟨xb, 2, none⟩ v2).setCell ⟨xb, 3, none⟩ v3).setCell ⟨xb, 4, none⟩ v4).setCell ⟨xb, 5, none⟩ v5).setCell ⟨xb, 6, none⟩ v6).setCell ⟨xb, 7, none⟩ v7).setCell ⟨xb, 8, none⟩ v8) :=
    (((((((((Kept.refl [xb] w).setCell (by simp) _).setCell (by simp) _).setCell (by simp) _).setCell (by simp) _).setCell (by simp) _).setCell (by simp) _).setCell (by simp) _).setCell (by simp) _).setCell (by simp) _
  exact kx.cell h (by simpa using hn)
def mnOf (u : Bool) (mx : Nat) : Nat := if u = true then mx else 4294967295
def pend (u : Bool) (l : List Fld) : Bool := u && l.isEmpty
noncomputable def sentOf (u : Bool) (mx : Nat) (l : List Fld) (T : Tab) : List UInt8 := if l.isEmpty = true then [] else updB u mx ++ encAll mx l T
def TkIn (w0 : World) (e k d hb m1 m2 m3 m4 : Nat) (T1 : Tab) (mx1 : Nat) (ub : Bool) (T : Tab) (mx : Nat) (vd bufv outv : Value) (xs : List (List Value)) (ss : List SaidD) (fl : List Fld) (pb : Nat) (pl : List Value) (a10 a47 : Value) (wr : World) : Prop :=
  a10 = .bool true ∧ ∃ fs1 fs2 ve bv sv lb, fl = fs1 ++ fs2 ∧ a47 = .int .i64 (fs1.length : Nat) ∧ Blk wr pb pl 27 ∧ (¬ Mut e k d hb m1 m2 m3 m4 ve vd (.slice none 0 0) bv sv outv pb) ∧
    TalkRep w0 wr e k d hb m1 m2 m3 m4 (tabAll mx1 fs1 T1) mx1 (mnOf (pend ub fs1) mx1) (pend ub fs1) T mx ve vd (.slice none 0 0) bv sv bufv outv (sentOf ub mx1 fs1 T1) lb [] true xs ss
theorem pend_nil (u : Bool) : pend u [] = u := by simp [pend]
theorem pend_snoc (u : Bool) (l : List Fld) (f : Fld) : pend u (l ++ [f]) = false := by simp [pend]
theorem pend_ne (u : Bool) {l : List Fld} (h : l ≠ []) : pend u l = false := by cases l with | nil => exact absurd rfl h | cons a r => simp [pend]
theorem sent_ne (u : Bool) (mx : Nat) {l : List Fld} (T : Tab) (h : l ≠ []) : sentOf u mx l T = updB u mx ++ encAll mx l T := by cases l with | nil => exact absurd rfl h | cons a r => simp [sentOf]
theorem sent_snoc (u : Bool) (mx : Nat) (l : List Fld) (f : Fld) (T : Tab) : sentOf u mx l T ++ (updB (pend u l) mx ++ encField f (tabAll mx l T) mx) = sentOf u mx (l ++ [f]) T := by
  rw [sent_ne u mx T (by simp : l ++ [f] ≠ []), encAll_append]
  have h1 : encAll mx [f] (tabAll mx l T) = encField f (tabAll mx l T) mx := by simp [encAll]
  rw [h1]
  cases l with
  | nil => simp [sentOf, pend_nil, encAll, tabAll]
  | cons a r =>
    rw [pend_ne u (by simp : a :: r ≠ []), sent_ne u mx T (by simp : a :: r ≠ [])]
    have : updB false mx = [] := by simp [updB]
    rw [this, List.nil_append, List.append_assoc]
theorem mnOf_t {u : Bool} {mx : Nat} (h : u = true) : mnOf u mx = mx := by unfold mnOf; rw [if_pos h]
theorem mnOf_f {u : Bool} {mx : Nat} (h : u = false) : mnOf u mx = 4294967295 := by subst h; rfl
theorem sent_le (u : Bool) {mx n : Nat} {l : List Fld} {T : Tab} (h : StOk T mx n) (hl : n + fcost l ≤ 1048576) : (sentOf u mx l T).length ≤ 30000000 := by
  unfold sentOf
  split
  · simp
  · have h1 := encAll_len mx l T n h hl
    have h2 := updB_len u h.ok.mx
    rw [List.length_append]; omega
theorem decSet_nil {d m1 m2 hb q : Nat} {v hv : Value} (h : q ∈ decSet d v m1 m2 hb (.slice none 0 0)) : q ∈ decSet d v m1 m2 hb hv := by
  simp only [decSet, List.cons_append, List.mem_cons, List.mem_append] at h ⊢
  rcases h with h | h | h
  · exact .inl h
  · exact .inr (.inl h)
  · simp [Value.ownBlock] at h
theorem sendSet_nil {e k m1 m2 q : Nat} {v bv sv : Value} (h : q ∈ sendSet e k v m1 m2 bv (.slice none 0 0)) : q ∈ sendSet e k v m1 m2 bv sv := by
  simp only [sendSet, List.cons_append, List.mem_cons, List.mem_append] at h ⊢
  rcases h with h | h | h
  · exact .inl h
  · exact .inr (.inl h)
  · simp [Value.ownBlock] at h
theorem tab_snoc (mx : Nat) (l : List Fld) (f : Fld) (T : Tab) : tabAll mx (l ++ [f]) T = nextTab f (tabAll mx l T) mx := by
  rw [tabAll_append]; rfl
set_option maxRecDepth 100000 in
set_option maxHeartbeats 8000000 in
theorem talk_any (pv : Value) (ps : List PartD) (w : World) (hp : PartsAt w pv ps) (hg : Glob w) (he : ErrAt w) (hok : AllOk ps) :
    Calls Tryd.prog 9 #[pv] w (TalkRet w ps) := by
  obtain ⟨pp, cap, rfl, hpp⟩ := hp
  have hmf : ∀ (fn : Fn) (first cap : Array Value) (w : World), (Instr.makeFunc fn first cap).run Tryd.prog w = .ok (.func fn first cap) w := fun _ _ _ _ => rfl
  go_enter Tryd.func9, Tryd.ntmps9
  go_upto_region 2 with (fail)
  generalize hw1 : w.alloc _ = w1
  obtain ⟨k1, X1, hx1⟩ := box_cells (l := [.slice none 0 0]) hw1
  generalize hke : w.heap.size = k at X1 hx1 ⊢
  have HW1 := Lib.hid hw1; clear hw1
  have HKE := Lib.hid hke; clear hke
  go_upto_region 3 with ((go_at_call 13; refine (new_enc k _).mono ?_; rintro en w2 ⟨m1, m2, rfl, hm1, hm2, E2, K2⟩))
  generalize hee : w1.heap.size = e at hm1 hm2 E2 ⊢
  have HEE := Lib.hid hee; clear hee
  go_upto_region 4 with (fail)
  generalize hw3 : w2.alloc _ = w3
  obtain ⟨k3, Y3, hy3⟩ := box_cells (l := [.slice none 0 0]) hw3
  generalize hbe : w2.heap.size = hb at Y3 hy3 ⊢
  have HW3 := Lib.hid hw3; clear hw3
  have HBE := Lib.hid hbe; clear hbe
  go_upto_region 5 with ((go_at_call 14; refine (new_dec hb _).mono ?_; rintro en w4 ⟨m3, m4, rfl, hm3, hm4, D4, K4⟩))
  generalize hde : w3.heap.size = d at hm3 hm4 D4 ⊢
  have HDE := Lib.hid hde; clear hde
  clear hmf
  go_wp2_with fail
  have HR0 := Lib.hid (talk_start k1 X1 HKE.out HEE.out hm1 hm2 E2 K2 k3 Y3 HBE.out HDE.out hm3 hm4 D4 K4)
  clear k1 X1 hx1 hm1 hm2 E2 K2 k3 Y3 hy3 hm3 hm4 D4 K4
  have HPP := Lib.hid hpp; clear hpp
  have HOK := Lib.hid hok; clear hok
  have hlen : ps.length ≤ 1048576 := HOK.out.len
  go_loopw [7, 29] (TkRel w ps e k d hb m1 m2 m3 m4) (fun _ a _ => ps.length - (intOf a).toNat)
  case atStart => exact ⟨[], ps, _, _, _, _, _, _, _, _, _, _, rfl, rfl, HR0.out⟩
  case round =>
    obtain ⟨ps1, ps2, ve, vd, hv, bv, sv, bufv, sent, lb, hd, xs, hps, rfl, R⟩ := hrel
    have hl12 : ps.length = ps1.length + ps2.length := by rw [hps, List.length_append]
    have HPS := Lib.hid hps; clear hps
    generalize hT : (state ps1).1 = T at R
    generalize hmx : (state ps1).2 = mx at R
    have HT := Lib.hid hT; clear hT
    have HMX := Lib.hid hmx; clear hmx
    by_cases hlt : ps1.length < ps.length
    · obtain ⟨p, r, rfl⟩ : ∃ p r, ps2 = p :: r := by
        cases ps2 with
        | nil => simp at hl12; omega
        | cons p r => exact ⟨p, r, rfl⟩
      obtain ⟨sz, fl⟩ := p
      have hget : ps[ps1.length]? = some ⟨sz, fl⟩ := by rw [HPS.out]; simp
      obtain ⟨b, o, fv, rfl, q0, q1, qf⟩ := HPP.out _ _ hget
      have q0 := R.kept.cell q0 (by simp)
      have q1 := R.kept.cell q1 (by simp)
      obtain ⟨fp, fcp, rfl, qff⟩ := qf
      clear hget
      simp only at q0
      generalize hi : ps1.length = i at hlt q0 q1 hl12 ⊢
      have HI := Lib.hid hi; clear hi
      have HQF := Lib.hid qff; clear qff
      have HL12 := Lib.hid hl12; clear hl12
      have t1 : (0 : Int) ≤ (i : Int) := by omega
      have t2 : (i : Int) < (ps.length : Int) := by omega
      go_upto_region 9 with (fail)
      generalize hw5 : wr.alloc _ = w5
      obtain ⟨k5, P5, hp5⟩ := box_cells (l := [.int .i64 sz, .slice fp fl.length fcp]) hw5
      have R5 := R.quiet k5
      have hmlt := R.lt
      generalize hpb : wr.heap.size = pb at P5 hp5 hmlt ⊢
      have HW5 := Lib.hid hw5; clear hw5
      have HPB := Lib.hid hpb; clear hpb
      have HMLT := Lib.hid hmlt; clear hmlt
      clear q0 q1
      have p0 := P5.cell 0 rfl
      have p1 := P5.cell 1 rfl
      have hcost : pcost ps1 + fcost fl ≤ 1048576 := by
        have h1 := HOK.out.all
        rw [HPS.out, pcost_append] at h1
        have h2 : pcost (⟨sz, fl⟩ :: r) = fcost fl + pcost r := by simp [pcost]
        omega
      have hpok : POk ⟨sz, fl⟩ := HOK.out.each _ (by rw [HPS.out]; simp)
      have hst : StOk T mx (pcost ps1) := by
        have := state_ok ps1 (by omega)
        rw [HT.out, HMX.out] at this; exact this
      have HST := Lib.hid hst; clear hst
      have HPOK := Lib.hid hpok; clear hpok
      obtain ⟨T1, hT1⟩ : ∃ T1, tabOf mx T ⟨sz, fl⟩ = T1 := ⟨_, rfl⟩
      obtain ⟨mx1, hmx1⟩ : ∃ mx1, boundOf mx ⟨sz, fl⟩ = mx1 := ⟨_, rfl⟩
      obtain ⟨ub, hub⟩ : ∃ ub, updOf ⟨sz, fl⟩ = ub := ⟨_, rfl⟩
      have HT1 := Lib.hid hT1; clear hT1
      have HMX1 := Lib.hid hmx1; clear hmx1
      have HUB := Lib.hid hub; clear hub
      go_upto_if 35 with (fail)
      go_cut [3, 4, 5, 6, 7, 9, 29] (fun s3 s4 s5 s6 s7 s9 s29 wx => s3 = .pointer (some ⟨k, 0, none⟩) ∧ s4 = .pointer (some ⟨e, 0, none⟩) ∧ s5 = .pointer (some ⟨hb, 0, none⟩) ∧ s6 = .pointer (some ⟨d, 0, none⟩) ∧ s9 = .pointer (some ⟨pb, 0, none⟩) ∧ s29 = .int .i64 i ∧ Blk wx pb [.int .i64 sz, .slice fp fl.length fcp] 27 ∧
        ∃ ve', (¬ Mut e k d hb m1 m2 m3 m4 ve' vd hv bv sv s7 pb) ∧ TalkRep w wx e k d hb m1 m2 m3 m4 T1 mx1 (mnOf ub mx1) ub T mx ve' vd hv bv sv bufv s7 sent lb hd true xs (talk ps1))
      case first =>
        by_cases hsz : 0 ≤ sz
        · obtain ⟨n, rfl⟩ := Int.eq_ofNat_of_zero_le hsz
          have hn : n < 4294967296 := by have := HPOK.out.sz; simp at this; omega
          have hmn : min n 4096 = mx1 := by rw [← HMX1.out]; unfold boundOf; rw [if_pos (by simp)]; simp
          have HMN := Lib.hid hmn; clear hmn
          go_wp2_with ((go_at_call 16; refine (set_enc e k T ve m1 m2 mx n mx1 false bv sv sent lb _ R5.send HST.out.ok hn HMN.out).mono ?_; rintro en w6 ⟨v6, rfl, S6, K6, hb6⟩; replace hb6 := Lib.hid hb6))
          go_meet
          case rel =>
            have hub1 : ub = true := by rw [← HUB.out]; simp [updOf]
            have hT1 : T1 = fit mx1 T := by rw [← HT1.out]; unfold tabOf; rw [if_pos (by simp), HMX1.out]
            subst hub1; subst hT1
            have K6' : Kept (sendSet e k ve m1 m2 bv sv) w5 w6 := K6.mono (by intro q hq; simp [sendSet, hq])
            refine ⟨rfl, rfl, rfl, rfl, rfl, rfl, P5.kept K6' (fun hx => by have := HMLT.out pb (.inl hx); omega), v6, ?_, ?_⟩
            · rintro (hx | hx | hx)
              · rcases sendSet_sub (w := w5) (.inl hb6.out) (.inl rfl) (.inl rfl) hx with h' | h'
                · have := HMLT.out pb (.inl h'); omega
                · omega
              · have := HMLT.out pb (.inr (.inl hx)); omega
              · have := HMLT.out pb (.inr (.inr hx)); omega
            exact R5.wrote S6 K6' (fun q hq => sendSet_sub (.inl hb6.out) (.inl rfl) (.inl rfl) hq)
        · have hsz2 : decide ((0 : Int) ≤ sz) = false := by simp; omega
          go_wp2_with fail
          go_meet
          case rel =>
            have hub1 : ub = false := by rw [← HUB.out]; simp [updOf]; omega
            have hT1 : T1 = T := by rw [← HT1.out]; unfold tabOf; rw [if_neg (show ¬ 0 ≤ sz by omega)]
            have hm1 : mx1 = mx := by rw [← HMX1.out]; unfold boundOf; rw [if_neg (show ¬ 0 ≤ sz by omega)]
            subst hub1; subst hT1; subst hm1
            exact ⟨rfl, rfl, rfl, rfl, rfl, rfl, P5, ve, (fun hx => by have := HMLT.out pb hx; omega), R5⟩
      case rest =>
        obtain ⟨rfl, rfl, rfl, rfl, rfl, rfl, P6, v6, hnm, R6⟩ := hcut
        replace hnm := Lib.hid hnm
        clear p0 p1 P5 hp5
        have ck := R6.send.sink.cell 0 rfl
        have fk := R6.send.sink.frozen 0
        have cb := R6.dec.box.cell 0 rfl
        have fb := R6.dec.box.frozen 0
        obtain ⟨S7, K7⟩ := R6.send.empty
        have R7 := R6.wrote S7 (K7.mono (by intro q hq; simp at hq; simp [sendSet, hq])) (by intro q hq; left; simp [sendSet, Value.ownBlock] at hq ⊢; rcases hq with hq | hq | hq <;> simp [hq])
        obtain ⟨D8, K8⟩ := R7.dec.empty
        have R8 := R7.read D8 (K8.mono (by intro q hq; simp at hq; simp [decSet, hq])) (by intro q hq; left; simp [decSet, Value.ownBlock] at hq ⊢; rcases hq with hq | hq <;> simp [hq])
        have cb' := R7.dec.box.cell 0 rfl
        have fb' := R7.dec.box.frozen 0
        go_upto_region 12 with (fail)
        have hkp : k < pb := HMLT.out k (.inl (by simp [sendSet]))
        have hbp : hb < pb := HMLT.out hb (.inr (.inl (by simp [decSet])))
        have P8 := (P6.kept K7 (by simp; omega)).kept K8 (by simp; omega)
        generalize hw8 : World.setCell (wc.setCell _ _) _ _ = w8 at R8 P8 ⊢
        have HW8 := Lib.hid hw8; clear hw8
        clear ck fk cb fb cb' fb' K7 K8 S7 R7 D8 R6 P6
        have p1 := P8.cell 1 rfl
        go_wp2_with fail
        have hflen : fl.length ≤ 1048576 := by have := fcost_len fl; omega
        have R8' := Lib.hid R8; clear R8
        have HNM := Lib.hid (show ¬ Mut e k d hb m1 m2 m3 m4 v6 vd (.slice none 0 0) bv (.slice none 0 0) u7 pb by
          rintro (hx | hx | hx)
          · exact hnm.out (.inl (sendSet_nil hx))
          · exact hnm.out (.inr (.inl (decSet_nil hx)))
          · exact hnm.out (.inr (.inr hx)))
        clear hnm
        clear p1
        go_loopw [10, 47] (TkIn w e k d hb m1 m2 m3 m4 T1 mx1 ub T mx vd bufv u7 xs (talk ps1) fl pb [.int .i64 sz, .slice fp fl.length fcp]) (fun _ a _ => fl.length - (intOf a).toNat)
        case atStart =>
          refine ⟨rfl, [], fl, v6, bv, .slice none 0 0, lb, rfl, rfl, P8, HNM.out, ?_⟩
          rw [pend_nil]
          exact R8'.out
        case round =>
          obtain ⟨rfl, fs1, fs2, ve9, bv9, sv9, lb9, hfl, rfl, P9, hnm, R9⟩ := hrel
          replace hnm := Lib.hid hnm
          have hfl12 : fl.length = fs1.length + fs2.length := by rw [hfl, List.length_append]
          have HFL := Lib.hid hfl; clear hfl
          by_cases hjl : fs1.length < fl.length
          · obtain ⟨f, fr, rfl⟩ : ∃ f fr, fs2 = f :: fr := by
              cases fs2 with
              | nil => simp at hfl12; omega
              | cons f fr => exact ⟨f, fr, rfl⟩
            have hget : fl[fs1.length]? = some f := by rw [HFL.out]; simp
            obtain ⟨fb0, fo, hfp, r0, r1, r2⟩ := HQF.out _ _ hget
            subst hfp
            have r0 := R9.kept.cell r0 (by simp)
            have r1 := R9.kept.cell r1 (by simp)
            have r2 := R9.kept.cell r2 (by simp)
            clear hget
            have hc1 : fcost fs1 + (1 + f.name.size + f.value.size) ≤ fcost fl := by
              rw [HFL.out, fcost_append]; simp [fcost]
            have hstT := tabOf_ok HST.out ⟨sz, fl⟩
            rw [HT1.out, HMX1.out] at hstT
            have hst9 := tabAll_ok mx1 fs1 T1 _ hstT (by omega)
            have hsl := sent_le ub (l := fs1) hstT (by omega)
            have HST9 := Lib.hid hst9; clear hst9 hstT
            have HSL := Lib.hid hsl; clear hsl
            have HFL12 := Lib.hid hfl12; clear hfl12
            generalize hj : fs1.length = j at hjl r0 r1 r2 ⊢
            have HJ := Lib.hid hj; clear hj
            have s1 : (0 : Int) ≤ (j : Int) := by omega
            have s2 : (j : Int) < (fl.length : Int) := by omega
            go_upto_region 16 with (fail)
            generalize hw10 : World.alloc _ _ = w10
            obtain ⟨k10, F10, hf10⟩ := box_cells (l := fc f) hw10
            have R10 := R9.quiet k10
            have P10 := P9.kept k10 (by simp)
            generalize hfx : wr.heap.size = fx at F10 hf10 ⊢
            have HW10 := Lib.hid hw10; clear hw10
            have HFX := Lib.hid hfx; clear hfx
            have x0 := F10.cell 0 rfl
            have x1 := F10.cell 1 rfl
            have x2 := F10.cell 2 rfl
            have g10 := hg.kept R10.kept (by simp) (by simp)
            have hnew := R10.new
            have h45 := hg.lt
            have n4 : 4 ∉ sendSet e k ve9 m1 m2 bv9 sv9 := fun hx => by have := hnew 4 (.inl hx); omega
            have n5 : 5 ∉ sendSet e k ve9 m1 m2 bv9 sv9 := fun hx => by have := hnew 5 (.inl hx); omega
            have HNEW := Lib.hid hnew; clear hnew
            have hfsz : f.name.size + f.value.size ≤ 2100000 := by omega
            have HMT := Lib.hid (fun h => @mnOf_t (pend ub fs1) mx1 h)
            have HMF := Lib.hid (fun h => @mnOf_f (pend ub fs1) mx1 h)
            have hssz : (sentOf ub mx1 fs1 T1).length ≤ 4100000000 := by have := HSL.out; omega
            have HSS := Lib.hid hssz; clear hssz
            have HST9' := HST9.out.ok
            have HK9 := Lib.hid HST9'; clear HST9'
            go_wp2_with ((go_at_call 17; refine (write_any e k (tabAll mx1 fs1 T1) ve9 m1 m2 mx1 (mnOf (pend ub fs1) mx1) (pend ub fs1) bv9 sv9 (sentOf ub mx1 fs1 T1) lb9 f _ R10.send HK9.out g10 n4 n5 HMT.out HMF.out hfsz HSS.out).mono ?_; rintro en w11 ⟨v11, bv11, sv11, lb11, rfl, S11, K11, n11, n12, n13⟩; replace n11 := Lib.hid n11; replace n12 := Lib.hid n12; replace n13 := Lib.hid n13))
            have hlt10 := R10.lt
            have R11 := R10.wrote S11 K11 (fun q hq => sendSet_sub n11.out n12.out n13.out hq)
            rw [sent_snoc, ← tab_snoc] at R11
            have P11 := P10.kept K11 (fun hx => hnm.out (.inl hx))
            refine ⟨⟨rfl, fs1 ++ [f], fr, v11, bv11, sv11, lb11, ?_, ?_, P11, ?_, ?_⟩, ?_⟩
            · rw [HFL.out]; simp
            · rw [List.length_append, HJ.out, List.length_singleton]; go_num
            · have hp10 := P10.lt
              rintro (hx | hx | hx)
              · rcases sendSet_sub n11.out n12.out n13.out hx with h' | h'
                · exact hnm.out (.inl h')
                · omega
              · exact hnm.out (.inr (.inl hx))
              · exact hnm.out (.inr (.inr hx))
            · rw [pend_snoc]; exact R11
            · have h1 := HFL12.out; have h2 := HJ.out; simp [intOf]; omega
          · have hz : fs2 = [] := List.eq_nil_of_length_eq_zero (by omega)
            have hfe : fs1 = fl := by rw [HFL.out, hz, List.append_nil]
            subst hz
            clear HFL hfl12
            subst hfe
            have hne : fs1 ≠ [] := HPOK.out.ne
            obtain ⟨S, hS⟩ : ∃ S, sayOne T mx ⟨sz, fs1⟩ = S := ⟨_, rfl⟩
            have e1 : sentOf ub mx1 fs1 T1 = S.bytes := by rw [sent_ne ub mx1 T1 hne, ← hS, ← HT1.out, ← HMX1.out, ← HUB.out]; rfl
            have e2 : tabAll mx1 fs1 T1 = S.tab := by rw [← hS, ← HT1.out, ← HMX1.out]; rfl
            have e3 : mx1 = S.mx := by rw [← hS, ← HMX1.out]; rfl
            have e4 : S.flds = fs1 := by rw [← hS]; rfl
            have e5 := state_snoc ps1 ⟨sz, fs1⟩
            rw [HT.out, HMX.out, hS] at e5
            have e6 := talk_snoc ps1 ⟨sz, fs1⟩
            rw [HT.out, HMX.out, hS] at e6
            rw [pend_ne ub hne, mnOf_f rfl, e1, e2, e3] at R9
            have hcan := can_part ⟨sz, fs1⟩ HST.out (by omega)
            rw [hS] at hcan
            have hso := sayOne_ok HST.out ⟨sz, fs1⟩ (by omega)
            rw [hS] at hso
            have HSO := Lib.hid hso; clear hso
            have hsl := say_len ⟨sz, fs1⟩ HST.out (by omega) hne
            rw [hS] at hsl
            obtain ⟨hby0, hby1⟩ := hsl
            have E4 := Lib.hid e4; clear e4
            have E5 := Lib.hid e5; clear e5
            have E6 := Lib.hid e6; clear e6
            have HCAN := Lib.hid hcan; clear hcan
            clear e1 e2 e3 hS
            obtain ⟨g, scap, hsv, hbs, _, hsc⟩ := R9.send.srow.parts hby0
            obtain ⟨_, scap', hsv', _, hsm⟩ := ownsRow_slice R9.send.srow
            subst hsv
            have hsm : scap ≤ maxLen := by cases hsv'; exact hsm
            have rdv : RdV wr g (.slice (some ⟨g, 0, none⟩) S.bytes.length scap) S.bytes := ⟨0, scap, rfl, hsc, hsm, fun q x hq => by rw [Nat.zero_add]; exact hbs q x hq⟩
            have hgs : g ∈ sendSet e k ve9 m1 m2 bv9 (.slice (some ⟨g, 0, none⟩) S.bytes.length scap) := by simp [sendSet, Value.ownBlock]
            have hgl : g < wr.heap.size := R9.send.lt g hgs
            have hset : ∀ x, x ∈ g :: 1 :: 4 :: 5 :: [] → x ∉ decSet d vd m3 m4 hb (.slice none 0 0) := by
              intro x hx hd
              have h45 := hg.lt
              simp only [List.mem_cons, List.not_mem_nil, or_false] at hx
              rcases hx with hx | hx
              · subst hx; exact R9.sd x hgs hd
              · have := R9.new x (.inr (.inl hd)); omega
            clear hbs hsv' hsm
            have HSC := Lib.hid hsc; clear hsc
            have HSET := Lib.hid hset; clear hset
            have g9 := hg.kept R9.kept (by simp) (by simp)
            have er9 := Lib.hid (he.kept R9.kept (by simp))
            have hby2 : S.bytes.length ≤ 8000000000 := by omega
            have ck := R9.send.sink.cell 0 rfl
            generalize hnb : S.bytes.length = nb at ck rdv hgs R9 hby0 hby1 hby2
            have HNB := Lib.hid hnb; clear hnb
            go_upto_region 19 with ((go_at_call 18; refine (write_dec d T vd m3 m4 mx bufv hb (.slice none 0 0) [] g _ S.bytes S.tab S.mx fs1 _ R9.dec rdv HSET.out hgl g9 er9.out HCAN.out (by rw [HNB.out]; exact hby0) (by rw [HNB.out]; exact hby2)).mono ?_; rintro en w12 ⟨buf12, vd12, hv12, first12, rfl, D12, K12, n11, n12⟩; replace n11 := Lib.hid n11; replace n12 := Lib.hid n12))
            have R12 := R9.read D12 K12 (fun q hq => decSet_sub n11.out n12.out hq)
            clear ck
            go_upto_region 20 with ((go_at_call 19; refine (close_dec d S.tab vd12 m3 m4 S.mx buf12 first12 hb hv12 fs1 _ D12).mono ?_; rintro en w13 ⟨rfl, D13, K13⟩))
            have R13 := R12.read D13 (K13.mono (by intro q hq; simp at hq; simp [decSet, tset, hq])) (fun q hq => .inl hq)
            obtain ⟨i0, hi0, hz0, hz1, hz2⟩ := info_parts info5
            have sb13 := R13.send.srow
            have hr13 := R13.dec.row
            obtain ⟨ph, ch, hve, _⟩ := ownsRow_slice hr13
            subst hve
            have ck13 : w13.cell? ⟨k, 0, none⟩ = some (.slice (some ⟨g, 0, none⟩) nb scap) := R13.send.sink.cell 0 rfl
            have cb13 : w13.cell? ⟨hb, 0, none⟩ = some (.slice ph fs1.length ch) := R13.dec.box.cell 0 rfl
            have hsrc : ∀ W, Kept [] w13 W → Src Tryd.prog 1 31 (.slice (some ⟨g, 0, none⟩) nb scap) nb (bc S.bytes) W := by
              intro W hW
              have := src_bts (W := W) (ownsRow_kept sb13 hW (by simp))
              rw [HNB.out] at this; exact this
            have hrow : ∀ W, Kept [] w13 W → W.ownsRow 0 50 3 (.slice ph fs1.length ch) fs1.length (fs1.flatMap fc) := fun W hW => ownsRow_kept hr13 hW (by simp)
            have HSRC := Lib.hid hsrc; clear hsrc
            have HROW := Lib.hid hrow; clear hrow
            have kd13 : Kept [] w13 w13.drew := (Kept.refl [] w13).drew
            have hkl : k < w13.heap.size := R13.send.sink.lt
            have hbl : hb < w13.heap.size := R13.dec.box.lt
            have hkn13 : ¬ k = w13.heap.size := by omega
            have hbn13 : ¬ hb = w13.heap.size := by omega
            have hb63 : 0 + nb ≤ maxLen := by unfold maxLen; omega
            have hb64 : (0 + nb) * 1 ≤ 140737488355328 := by omega
            have hfl63 : fs1.length < 4294967296 := by omega
            have HNB2 := Lib.hid hb63; clear hb63
            have HNB3 := Lib.hid hb64; clear hb64
            have HFLL := Lib.hid hfl63; clear hfl63
            clear sb13 hr13
            go_cut [3, 4, 5, 6, 7, 16, 29] (fun s3 s4 s5 s6 s7 s16 s29 wx => s3 = .pointer (some ⟨k, 0, none⟩) ∧ s4 = .pointer (some ⟨e, 0, none⟩) ∧ s5 = .pointer (some ⟨hb, 0, none⟩) ∧ s6 = .pointer (some ⟨d, 0, none⟩) ∧ s29 = .int .i64 i ∧ s7 = u7 ∧ HalfSaid w13 S.bytes fs1 s16 wx)
            case first =>
              go_region_held3 (fun w' => w'.cell? ⟨k, 0, none⟩ = some (.slice (some ⟨g, 0, none⟩) nb scap) ∧ w'.cell? ⟨hb, 0, none⟩ = some (.slice ph fs1.length ch)) (first | with_reducible exact ⟨ck15, cb15⟩ | with_reducible exact ⟨ck14, cb14⟩ | with_reducible exact ⟨keep9 ck14 hkn15 _ _ _ _ _ _ _ _ _, keep9 cb14 hbn15 _ _ _ _ _ _ _ _ _⟩ | with_reducible exact ⟨keep9 ck14 hkn13 _ _ _ _ _ _ _ _ _, keep9 cb14 hbn13 _ _ _ _ _ _ _ _ _⟩ | go_keep) (first
                | (refine step_app _ (by rfl) _ _ 31 31 (by rfl) 5 i0 _ 1 1 Tryd.underlying31 hi0 hz0 hz1 hz2 rfl (.slice none 0 0) 0 [] (by rfl) (World.ownsRow_nil _ 0 5 1) (.slice (some ⟨g, 0, none⟩) nb scap) (by rfl) nb (bc S.bytes) (HSRC.out _ (by first | with_reducible assumption | with_reducible exact Kept.alloc (by with_reducible assumption) _ | with_reducible exact Kept.drew (Kept.alloc (Kept.refl [] w13) _))) HNB2.out HNB3.out ?_; intro v15 w15 own15 q15 n15 _; have q15 : Kept [] _ w15 := q15; have k15 : Kept [] w13 w15 := Kept.trans (by first | with_reducible assumption | with_reducible exact Kept.alloc (by with_reducible assumption) _ | with_reducible exact Kept.drew (Kept.alloc (Kept.refl [] w13) _)) q15; have ck15 := k15.cell ck13 (by simp); have cb15 := k15.cell cb13 (by simp); have hkn15 : ¬ k = w15.heap.size := (by have := k15.size; omega); have hbn15 : ¬ hb = w15.heap.size := (by have := k15.size; omega); replace n15 := Lib.hid n15; obtain ⟨p15, c15, hv15, _⟩ := ownsRow_slice own15; subst hv15; (first | (have hz15 : Kept [] (w13.drew.alloc (.cells #[.slice none 0 0, .slice none 0 0, .bool false, .slice none 0 0, .int .i64 0, .int .i64 0, .slice none 0 0, .int .i64 0, .int .i64 0] 35)) w15 := (by with_reducible exact q15); have Z15 : Blk w15 w13.heap.size zl35 35 := (Blk.new w13.drew zl35 35).kept hz15 (by simp)) | (have hz15 : Kept [] (w13.alloc (.cells #[.slice none 0 0, .slice none 0 0, .bool false, .slice none 0 0, .int .i64 0, .int .i64 0, .slice none 0 0, .int .i64 0, .int .i64 0] 35)).drew w15 := (by with_reducible exact q15); have Z15 : Blk w15 w13.heap.size zl35 35 := ((Blk.new w13 zl35 35).drew).kept hz15 (by simp)) | (have hz15 : Kept [] (w14.alloc (.cells #[.slice none 0 0, .slice none 0 0, .bool false, .slice none 0 0, .int .i64 0, .int .i64 0, .slice none 0 0, .int .i64 0, .int .i64 0] 35)) w15 := (by with_reducible exact q15); have Z15 : Blk w15 w14.heap.size zl35 35 := (Blk.new w14 zl35 35).kept hz15 (by simp)) | (have hz15 : Kept [] w14 w15 := (by with_reducible exact q15); have Z15 : Blk w15 w13.heap.size zl35 35 := Z14.kept hz15 (by simp)) | skip); (try (have zf15 := fun i => Z15.frozen i; have z15_0 := Z15.cell 0 (v := .slice none 0 0) rfl; have z15_1 := Z15.cell 1 (v := .slice none 0 0) rfl; have z15_2 := Z15.cell 2 (v := .bool false) rfl; have z15_3 := Z15.cell 3 (v := .slice none 0 0) rfl; have z15_4 := Z15.cell 4 (v := .int .i64 0) rfl; have z15_5 := Z15.cell 5 (v := .int .i64 0) rfl; have z15_6 := Z15.cell 6 (v := .slice none 0 0) rfl; have z15_7 := Z15.cell 7 (v := .int .i64 0) rfl; have z15_8 := Z15.cell 8 (v := .int .i64 0) rfl)))
                | (go_at_call 20; refine (from_any (.slice ph fs1.length ch) fs1 _ (HROW.out _ (by first | with_reducible assumption | with_reducible exact Kept.alloc (by with_reducible assumption) _ | with_reducible exact Kept.drew (Kept.alloc (Kept.refl [] w13) _))) HFLL.out).mono ?_; rintro en w14 ⟨v14, rfl, own14, q14, f14⟩; have k14 : Kept [] w13 w14 := Kept.trans (by first | with_reducible assumption | with_reducible exact Kept.alloc (by with_reducible assumption) _ | with_reducible exact Kept.drew (Kept.alloc (Kept.refl [] w13) _)) q14; have ck14 := k14.cell ck13 (by simp); have cb14 := k14.cell cb13 (by simp); have hkn14 : ¬ k = w14.heap.size := (by have := k14.size; omega); have hbn14 : ¬ hb = w14.heap.size := (by have := k14.size; omega); replace f14 := Lib.hid f14; obtain ⟨p14, c14, hv14, _⟩ := ownsRow_slice own14; subst hv14; (first | (have hz14 : Kept [] (w13.drew.alloc (.cells #[.slice none 0 0, .slice none 0 0, .bool false, .slice none 0 0, .int .i64 0, .int .i64 0, .slice none 0 0, .int .i64 0, .int .i64 0] 35)) w14 := (by with_reducible exact q14); have Z14 : Blk w14 w13.heap.size zl35 35 := (Blk.new w13.drew zl35 35).kept hz14 (by simp)) | (have hz14 : Kept [] (w13.alloc (.cells #[.slice none 0 0, .slice none 0 0, .bool false, .slice none 0 0, .int .i64 0, .int .i64 0, .slice none 0 0, .int .i64 0, .int .i64 0] 35)).drew w14 := (by with_reducible exact q14); have Z14 : Blk w14 w13.heap.size zl35 35 := ((Blk.new w13 zl35 35).drew).kept hz14 (by simp)) | (have hz14 : Kept [] (w15.alloc (.cells #[.slice none 0 0, .slice none 0 0, .bool false, .slice none 0 0, .int .i64 0, .int .i64 0, .slice none 0 0, .int .i64 0, .int .i64 0] 35)) w14 := (by with_reducible exact q14); have Z14 : Blk w14 w15.heap.size zl35 35 := (Blk.new w15 zl35 35).kept hz14 (by simp)) | (have hz14 : Kept [] w15 w14 := (by with_reducible exact q14); have Z14 : Blk w14 w13.heap.size zl35 35 := Z15.kept hz14 (by simp)) | skip); (try (have zf14 := fun i => Z14.frozen i; have z14_0 := Z14.cell 0 (v := .slice none 0 0) rfl; have z14_1 := Z14.cell 1 (v := .slice none 0 0) rfl; have z14_2 := Z14.cell 2 (v := .bool false) rfl; have z14_3 := Z14.cell 3 (v := .slice none 0 0) rfl; have z14_4 := Z14.cell 4 (v := .int .i64 0) rfl; have z14_5 := Z14.cell 5 (v := .int .i64 0) rfl; have z14_6 := Z14.cell 6 (v := .slice none 0 0) rfl; have z14_7 := Z14.cell 7 (v := .int .i64 0) rfl; have z14_8 := Z14.cell 8 (v := .int .i64 0) rfl))))
              all_goals
                go_wp2_with fail
                go_meet
                case rel =>
                  have B15 : Bts w15 (.slice p15 nb c15) S.bytes := by
                    have h := own15
                    rw [Nat.zero_add, List.nil_append] at h
                    unfold Bts; rw [HNB.out]; exact h
                  have h1514 : Kept [] w15 w14 := (by first | with_reducible exact q14 | with_reducible exact ((Kept.refl [] w15).alloc _).trans q14)
                  have Bx : Bts w14 (.slice p15 nb c15) S.bytes := ownsRow_kept B15 h1514 (by simp)
                  have F1 : Fresh w13 (.slice p15 nb c15) := by
                    intro g' hg'
                    have hg2 : (Value.slice p15 (0 + nb) c15).ownBlock = some g' := by rw [Nat.zero_add]; exact hg'
                    rcases n15.out with e' | ⟨g2, e', h2⟩
                    · rw [e'] at hg2; simp [Value.ownBlock] at hg2
                    · rw [e'] at hg2; cases hg2; simp at h2; omega
                  have F2 : Fresh w13 (.slice p14 fs1.length c14) := by
                    intro g' hg'
                    have h2 := f14.out g' hg'
                    have h3 := k15.size
                    (try simp at h2); omega
                  refine ⟨rfl, rfl, rfl, rfl, rfl, rfl, ?_⟩
                  first
                    | with_reducible exact half_said k14 Bx own14 F1 F2
                    | with_reducible exact half_set k14 (by first | exact Nat.le_refl _ | exact k15.size) Z14 Bx own14 F1 F2
            case rest =>
              obtain ⟨rfl, rfl, rfl, rfl, rfl, rfl, xb, p16, n16, c16, p17, n17, c17, rfl, hxb, Z20, Bb20, Bf20, F1, F2, K20⟩ := hcut
              have R20 := R13.quiet K20
              have F1' := Lib.hid F1; clear F1
              have F2' := Lib.hid F2; clear F2
              clear ck13 cb13 kd13 hkl hbl hkn13 hbn13 HSRC HROW
              have htz := HSO.out.ok.sz
              have hmz := HSO.out.ok.mx
              have htl := HSO.out.ok.len
              have hcut0 := R13.lt
              have hxm : ∀ x, Mut e k d hb m1 m2 m3 m4 ve9 vd12 (.slice ph fs1.length ch) bv9 (.slice (some ⟨g, 0, none⟩) nb scap) u7 x → x < xb := fun x hx => Nat.lt_of_lt_of_le (hcut0 x hx) hxb
              have HXM := Lib.hid hxm; clear hxm hcut0
              have HXB := Lib.hid hxb; clear hxb
              obtain ⟨tz, htzz⟩ : ∃ tz, tsz S.tab.ents = tz := ⟨_, rfl⟩
              obtain ⟨mz, hmzz⟩ : ∃ mz, S.mx = mz := ⟨_, rfl⟩
              have ec5 := R20.send.tab.blk.cell 5 rfl
              have ec6 := R20.send.tab.blk.cell 6 rfl
              have ec9 := R20.send.tab.blk.cell 9 rfl
              rw [htzz] at htz ec5
              rw [hmzz] at htz hmz ec6
              have HTZ := Lib.hid htzz; clear htzz
              have HMZ := Lib.hid hmzz; clear hmzz
              have HTL := Lib.hid htl; clear htl
              have htl2 : S.tab.ents.length < 4294967296 := by have := HTL.out; omega
              have HTL2 := Lib.hid htl2; clear htl2
              go_upto_region 22 with ((go_at_call 21; refine (ezz_any e _ _ _ _ ec5 ec6 ec9).mono ?_; rintro en w21 ⟨rfl, K21⟩))
              have R21 := R20.quiet K21
              have Z21 := Z20.kept K21 (by simp)
              clear ec5 ec6 ec9
              have hrl : S.tab.ents.reverse.length < 4294967296 := by rw [List.length_reverse]; exact HTL2.out
              have HRL := Lib.hid hrl; clear hrl
              go_upto_region 23 with (first
                | (go_at_call 22; refine (zz_enc e S.tab ve9 m1 m2 _ 74 _ R21.send.tab HTL2.out).mono ?_; rintro en w22 ⟨v22, rfl, own22, K22, F22⟩; replace F22 := Lib.hid F22)
                | (go_at_call 20; refine (from_any v22 S.tab.ents.reverse _ own22 HRL.out).mono ?_; rintro en w23 ⟨v23, rfl, own23, K23, F23⟩; replace F23 := Lib.hid F23; obtain ⟨p23, c23, hv23, _⟩ := ownsRow_slice own23; generalize hl23 : S.tab.ents.reverse.length = l23 at hv23; subst hv23; have Z23 := (Z21.kept K22 (by simp)).kept K23 (by simp); have z3 := Z23.cell 3 rfl; have z4 := Z23.cell 4 rfl; have z5 := Z23.cell 5 rfl; have zf3 := Z23.frozen 3; have zf4 := Z23.frozen 4; have zf5 := Z23.frozen 5; replace hl23 := Lib.hid hl23))
              have Z24 := ((Z23.set 3 (.slice p23 l23 c23)).set 4 (.int .i64 tz)).set 5 (.int .i64 mz)
              have q24 : Kept [xb] w23 (((w23.setCell ⟨xb, 3, none⟩ (.slice p23 l23 c23)).setCell ⟨xb, 4, none⟩ (.int .i64 tz)).setCell ⟨xb, 5, none⟩ (.int .i64 mz)) := (((Kept.refl [xb] w23).setCell (by simp) _).setCell (by simp) _).setCell (by simp) _
              generalize hw24 : World.setCell (World.setCell (w23.setCell _ _) _ _) _ _ = w24 at Z24 q24 ⊢
              have HW24 := Lib.hid hw24; clear hw24
              have K1323 : Kept [] w13 w23 := ((K20.trans K21).trans K22).trans K23
              have K2023 : Kept [] wc w23 := (K21.trans K22).trans K23
              have K1324 : Kept [] w13 w24 := K1323.step q24 (by intro q hq; right; simp at hq; rw [hq]; exact HXB.out)
              have R24 := R13.quiet K1324
              have Z24 : Blk w24 xb [.slice p16 n16 c16, .slice p17 n17 c17, .bool true, .slice p23 l23 c23, .int .i64 tz, .int .i64 mz, .slice none 0 0, .int .i64 0, .int .i64 0] 35 := Z24
              have Bb24 : Bts w24 (.slice p16 n16 c16) S.bytes := ownsRow_kept (ownsRow_kept Bb20 K2023 (by simp)) q24 (by intro g' hg'; simp; intro e'; exact own_blk_ne (ownsRow_kept Bb20 K2023 (by simp)) Z23 (by decide) (by rw [hg', e']))
              have Bf24 : w24.ownsRow 0 23 3 (.slice p17 n17 c17) fs1.length (fs1.flatMap fc) := ownsRow_kept (ownsRow_kept Bf20 K2023 (by simp)) q24 (by intro g' hg'; simp; intro e'; exact own_blk_ne (ownsRow_kept Bf20 K2023 (by simp)) Z23 (by decide) (by rw [hg', e']))
              have E24 : w24.ownsRow 0 23 3 (.slice p23 l23 c23) S.tab.ents.reverse.length (S.tab.ents.reverse.flatMap fc) := ownsRow_kept own23 q24 (by intro g' hg'; simp; intro e'; exact own_blk_ne own23 Z23 (by decide) (by rw [hg', e']))
              clear z3 z4 z5 zf3 zf4 zf5
              have dc5 := R24.dec.tab.blk.cell 5 rfl
              have dc6 := R24.dec.tab.blk.cell 6 rfl
              have dc7 := R24.dec.tab.blk.cell 7 rfl
              rw [HTZ.out] at dc5
              rw [HMZ.out] at dc6
              go_upto_region 24 with ((go_at_call 23; refine (dzz_any d _ _ _ _ dc5 dc6 dc7).mono ?_; rintro en w25 ⟨rfl, K25⟩))
              clear dc5 dc6 dc7
              have R25 := R24.quiet K25
              have Z25 := Z24.kept K25 (by simp)
              go_upto_region 25 with (first
                | (go_at_call 24; refine (zz_dec d S.tab vd12 m3 m4 _ 80 _ R25.dec.tab HTL2.out).mono ?_; rintro en w26 ⟨v26, rfl, own26, K26, F26⟩; replace F26 := Lib.hid F26)
                | (go_at_call 20; refine (from_any v26 S.tab.ents.reverse _ own26 HRL.out).mono ?_; rintro en w27 ⟨v27, rfl, own27, K27, F27⟩; replace F27 := Lib.hid F27; obtain ⟨p27, c27, hv27, _⟩ := ownsRow_slice own27; generalize hl27 : S.tab.ents.reverse.length = l27 at hv27; subst hv27; have Z27 := (Z25.kept K26 (by simp)).kept K27 (by simp); have z6 := Z27.cell 6 rfl; have z7 := Z27.cell 7 rfl; have z8 := Z27.cell 8 rfl; have zf6 := Z27.frozen 6; have zf7 := Z27.frozen 7; have zf8 := Z27.frozen 8; replace hl27 := Lib.hid hl27))
              have Z28 := ((Z27.set 6 (.slice p27 l27 c27)).set 7 (.int .i64 tz)).set 8 (.int .i64 mz)
              have q28 : Kept [xb] w27 (((w27.setCell ⟨xb, 6, none⟩ (.slice p27 l27 c27)).setCell ⟨xb, 7, none⟩ (.int .i64 tz)).setCell ⟨xb, 8, none⟩ (.int .i64 mz)) := (((Kept.refl [xb] w27).setCell (by simp) _).setCell (by simp) _).setCell (by simp) _
              generalize hw28 : World.setCell (World.setCell (w27.setCell _ _) _ _) _ _ = w28 at Z28 q28 ⊢
              have HW28 := Lib.hid hw28; clear hw28
              have K2427 : Kept [] w24 w27 := (K25.trans K26).trans K27
              have K1327 : Kept [] w13 w27 := K1324.trans K2427
              have K1328 : Kept [] w13 w28 := K1327.step q28 (by intro q hq; right; simp at hq; rw [hq]; exact HXB.out)
              have R28 := R13.quiet K1328
              have Z28 : Blk w28 xb [.slice p16 n16 c16, .slice p17 n17 c17, .bool true, .slice p23 l23 c23, .int .i64 tz, .int .i64 mz, .slice p27 l27 c27, .int .i64 tz, .int .i64 mz] 35 := Z28
              have Bb28 : Bts w28 (.slice p16 n16 c16) S.bytes := ownsRow_kept (ownsRow_kept Bb24 K2427 (by simp)) q28 (by intro g' hg'; simp; intro e'; exact own_blk_ne (ownsRow_kept Bb24 K2427 (by simp)) Z27 (by decide) (by rw [hg', e']))
              have Bf28 : w28.ownsRow 0 23 3 (.slice p17 n17 c17) fs1.length (fs1.flatMap fc) := ownsRow_kept (ownsRow_kept Bf24 K2427 (by simp)) q28 (by intro g' hg'; simp; intro e'; exact own_blk_ne (ownsRow_kept Bf24 K2427 (by simp)) Z27 (by decide) (by rw [hg', e']))
              have E28 : w28.ownsRow 0 23 3 (.slice p23 l23 c23) S.tab.ents.reverse.length (S.tab.ents.reverse.flatMap fc) := ownsRow_kept (ownsRow_kept E24 K2427 (by simp)) q28 (by intro g' hg'; simp; intro e'; exact own_blk_ne (ownsRow_kept E24 K2427 (by simp)) Z27 (by decide) (by rw [hg', e']))
              have D28 : w28.ownsRow 0 23 3 (.slice p27 l27 c27) S.tab.ents.reverse.length (S.tab.ents.reverse.flatMap fc) := ownsRow_kept own27 q28 (by intro g' hg'; simp; intro e'; exact own_blk_ne own27 Z27 (by decide) (by rw [hg', e']))
              clear z6 z7 z8 zf6 zf7 zf8
              rw [List.length_reverse] at E28 D28
              have hSR : SaidRow w28 (.slice p16 n16 c16) (.slice p17 n17 c17) (.slice p23 l23 c23) (.slice p27 l27 c27) S := ⟨Bb28, by rw [E4.out]; exact Bf28, E28, D28⟩
              have s13 := K20.size
              have s20 := K2023.size
              have s1323 := K1323.size
              have s1327 := K1327.size
              have hOff : OffM w28 (Mut e k d hb m1 m2 m3 m4 ve9 vd12 (.slice ph fs1.length ch) bv9 (.slice (some ⟨g, 0, none⟩) nb scap) u7) (.slice p16 n16 c16) (.slice p17 n17 c17) (.slice p23 l23 c23) (.slice p27 l27 c27) := by
                have hm13 := R13.lt
                have key : ∀ g', w13.heap.size ≤ g' → ¬ Mut e k d hb m1 m2 m3 m4 ve9 vd12 (.slice ph fs1.length ch) bv9 (.slice (some ⟨g, 0, none⟩) nb scap) u7 g' := fun g' hg' hm => by have := hm13 g' hm; omega
                intro v hv g' hg'
                simp only [List.mem_cons, List.not_mem_nil, or_false] at hv
                rcases hv with rfl | rfl | rfl | rfl
                · exact ⟨key g' (F1'.out g' hg'), (Bb28.lt g' hg').2⟩
                · exact ⟨key g' (F2'.out g' hg'), (Bf28.lt g' hg').2⟩
                · exact ⟨key g' (by have := F23.out g' hg'; have := K22.size; have := K21.size; omega), (E28.lt g' hg').2⟩
                · exact ⟨key g' (by have := F27.out g' hg'; have := K26.size; have := K25.size; have := K1324.size; omega), (D28.lt g' hg').2⟩
              have HSR := Lib.hid hSR; clear hSR
              have HOff := Lib.hid hOff; clear hOff
              have hxl : xs.length = ps1.length := by rw [Saids.len _ _ R28.said, talk_len]
              have hxl2 : xs.length ≤ 1048576 := by have := HI.out; omega
              have HXL := Lib.hid hxl; clear hxl
              have hb1 : xs.length + 1 ≤ maxLen := by unfold maxLen; omega
              have hb2 : (xs.length + 1) * 136 ≤ 140737488355328 := by omega
              have HB1 := Lib.hid hb1; clear hb1
              have HB2 := Lib.hid hb2; clear hb2
              have y0 := Z28.cell 0 rfl
              have y1 := Z28.cell 1 rfl
              have y2 := Z28.cell 2 rfl
              have y3 := Z28.cell 3 rfl
              have y4 := Z28.cell 4 rfl
              have y5 := Z28.cell 5 rfl
              have y6 := Z28.cell 6 rfl
              have y7 := Z28.cell 7 rfl
              have y8 := Z28.cell 8 rfl
              have hout := R28.out
              have HOUT := Lib.hid hout; clear hout
              have hcells : saidCells (.slice p16 n16 c16) (.slice p17 n17 c17) (.slice p23 l23 c23) (.slice p27 l27 c27) S = [.slice p16 n16 c16, .slice p17 n17 c17, .bool true, .slice p23 l23 c23, .int .i64 tz, .int .i64 mz, .slice p27 l27 c27, .int .i64 tz, .int .i64 mz] := by
                unfold saidCells; rw [HTZ.out, HMZ.out]
              have HCE := Lib.hid hcells; clear hcells
              have t6 : (i : Int) + 1 ≤ 1048577 := by omega
              go_wp2_with (at_builtin; go_must (refine app_row _ 28 35 _ 9 136 Tryd.underlying28 info35 rfl rfl _ _ rfl _ xs.length _ rfl HOUT.out _ rfl [.slice p16 n16 c16, .slice p17 n17 c17, .bool true, .slice p23 l23 c23, .int .i64 tz, .int .i64 mz, .slice p27 l27 c27, .int .i64 tz, .int .i64 mz] rfl rfl (by intro u hu; simp at hu; rcases hu with rfl | rfl | rfl | rfl | rfl | rfl | rfl | rfl | rfl <;> rfl) HB1.out HB2.out ?_; intro v29 w29 own29 K29 n29; replace n29 := Lib.hid n29))
              have own29' := own29
              rw [← HCE.out] at own29'
              have RF := R28.more HSR.out HOff.out own29' K29 n29.out
              have hnl : (i : Int) + 1 = ((ps1 ++ [(⟨sz, fs1⟩ : PartD)]).length : Nat) := by rw [List.length_append, HI.out, List.length_singleton]; omega
              have hpl : ps = (ps1 ++ [(⟨sz, fs1⟩ : PartD)]) ++ r := by rw [HPS.out]; simp
              refine And.intro (TkRel.intro (ps1 ++ [⟨sz, fs1⟩]) r _ hpl hnl E5.out E6.out RF) ?_
              simp only [intOf]; omega
    · have hz : ps2 = [] := List.eq_nil_of_length_eq_zero (by omega)
      subst hz
      have hps : ps1 = ps := by rw [HPS.out, List.append_nil]
      have HL12 := Lib.hid hl12; clear hl12
      go_wp2_with fail
      go_ret
      refine ⟨_, xs, rfl, R.kept, R.out, ?_⟩
      rw [← hps]
      exact Saids.step (Kept.refl [] _) (by simp) (fun x hx => hx.elim) _ _ R.said
end Go.Proofs.YtoceghdnipjkfaaDoor
