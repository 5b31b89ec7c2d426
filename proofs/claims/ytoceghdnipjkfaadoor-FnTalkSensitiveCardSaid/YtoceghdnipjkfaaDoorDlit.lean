/-
  The decoder's step: a literal field.
-/
import Derived.Test.YtoceghdnipjkfaaDoorDrep
import Derived.Test.YtoceghdnipjkfaaDoorAt
import Derived.Test.YtoceghdnipjkfaaDoorRstr
namespace Go.Proofs.YtoceghdnipjkfaaDoor
open Go.RowKit
attribute [local irreducible] st

/-- the name: looked up, or cut out and not yet read -/
def LitName (w : World) (g xb yb i : Nat) (f : Fld) : Prop :=
  (i ≠ 0 ∧ Blk w xb [.string f.name, .string ⟨#[]⟩, .bool false] 50) ∨ (i = 0 ∧ Blk w xb [.string ⟨#[]⟩, .string ⟨#[]⟩, .bool false] 50 ∧ ∃ h bv, Blk w yb [.bool h, bv] 125 ∧ UStr w g f.name h bv)
theorem UStr.keptS {S : List Nat} {w w' : World} {g : Nat} {s : ByteArray} {h : Bool} {bv : Value} (u : UStr w g s h bv) (hk : Kept S w w') (hn : g ∉ S) : UStr w' g s h bv := by
  unfold UStr at *
  split
  · rename_i e; rw [if_pos e] at u; exact u.kept hk hn
  · rename_i e; rw [if_neg e] at u; exact u.kept hk hn
theorem UStr.isSlice {w : World} {g : Nat} {s : ByteArray} {h : Bool} {bv : Value} (u : UStr w g s h bv) : ∃ p n c, bv = .slice p n c := by
  unfold UStr at u
  split at u <;> (obtain ⟨off, cap, e, _⟩ := u; exact ⟨_, _, _, e⟩)
theorem RdV.isSlice {w : World} {g : Nat} {v : Value} {l : List UInt8} (h : RdV w g v l) : ∃ p n c, v = .slice p n c := by
  obtain ⟨off, cap, e, _⟩ := h; exact ⟨_, _, _, e⟩
/-- the strings' bytes of a literal field -/
noncomputable def litBytes (i : Nat) (f : Fld) : List UInt8 := if i = 0 then encStr f.name ++ encStr f.value else encStr f.value

/-- the table behind a literal field -/
def litTab (ix : Bool) (f : Fld) (T : Tab) (mx : Nat) : Tab := if ix = true then fit mx ⟨T.ents ++ [f], T.ev⟩ else T
set_option maxRecDepth 100000 in
set_option maxHeartbeats 4000000 in
theorem parse_lit (d : Nat) (T : Tab) (v : Value) (m1 m2 mx : Nat) (bv : Value) (first : Bool) (hb : Nat) (hv : Value) (l : List Fld) (g n fst i : Nat) (it : Int) (ix : Bool) (f : Fld) (rest : List UInt8) (w : World)
    (h : DecRep w d T v m1 m2 mx bv first hb hv l) (hr : RdV w g bv (orF fst (vi n i) ++ (litBytes i f ++ rest))) (hg : g ∉ decSet d v m1 m2 hb hv) (hgl : g < w.heap.size) (hgb : Glob w)
    (hn : n = 4 ∨ n = 6) (hf1 : fst % 2 ^ n = 0) (hf2 : fst + 2 ^ n ≤ 256) (hix : (it == 0) = ix) (hse : (it == 2) = f.sens) (hixs : ix = true → f.sens = false)
    (hok : TOk T mx) (h1 : i ≤ 61 + T.ents.length) (hf : i ≠ 0 → ∃ gf, fieldAt T i = some gf ∧ gf.name = f.name) (hl : l.length ≤ 4000000) (hfs : f.name.size + f.value.size ≤ 2100000) (hrl : rest.length ≤ 8000000000) :
    Calls Tryd.prog 55 #[.pointer (some ⟨d, 0, none⟩), .int .u8 n, .int .i64 it] w (DecRet w d (litTab ix f T mx) v m1 m2 mx first hb hv (l ++ [f]) g rest) := by
  have hr0 := hr
  obtain ⟨off, cap, rfl, hle, hm, hrd⟩ := hr
  generalize hN : (orF fst (vi n i) ++ (litBytes i f ++ rest)).length = N at *
  have HN := Lib.hid hN; clear hN
  have HR0 := Lib.hid hrd; clear hrd
  have HM := Lib.hid hm; clear hm
  have HF := Lib.hid hf; clear hf
  have HF1 := Lib.hid hf1; clear hf1
  have HF2 := Lib.hid hf2; clear hf2
  have HNN : n = 4 ∨ n = 5 ∨ n = 6 ∨ n = 7 := by omega
  replace HNN := Lib.hid HNN
  have HN2 := Lib.hid hn; clear hn
  have HIXS := Lib.hid hixs; clear hixs
  have c11 := h.tab.blk.cell 11 rfl
  have hd := h.tab.blk.lt
  have hTl := hok.len
  have hil : i < 4294967296 := by omega
  have HOK := Lib.hid hok; clear hok
  have HIX := Lib.hid hix; clear hix
  have HSE := Lib.hid hse; clear hse
  go_enter Tryd.func55, Tryd.ntmps55
  go_upto_region 3 with ((go_at_call 62; refine (read_any n fst i g _ (litBytes i f ++ rest) _ HNN.out HF1.out HF2.out hil hr0).mono ?_; rintro e w2 ⟨v2, rfl, r2, K2⟩; obtain ⟨off2, cap2, hv2, hle2, hm2, hrd2⟩ := r2; have hr2 : RdV w2 g v2 (litBytes i f ++ rest) := ⟨off2, cap2, hv2, hle2, hm2, hrd2⟩; generalize hm3 : (litBytes i f ++ rest).length = m at hv2 hle2; subst hv2; have HM3 := Lib.hid hm3; clear hm3))
  have h2 := h.kept0 K2
  have HM2 := Lib.hid hm2; clear hm2
  clear c11
  have hd2 : d < w2.heap.size := h2.tab.blk.lt
  have hgl2 : g < w2.heap.size := Nat.lt_of_lt_of_le hgl K2.size
  go_upto_region 6 with (fail)
  generalize hw3 : w2.alloc _ = w3
  obtain ⟨k3, X3, hx3⟩ := box_cells (l := [.string ⟨#[]⟩, .string ⟨#[]⟩, .bool false]) hw3
  have h3 := h2.kept0 k3
  have hr3 := hr2.kept k3 (by simp)
  generalize hxe : w2.heap.size = xb at X3 hx3 hd2 hgl2 ⊢
  have HW := Lib.hid hw3; clear hw3
  have HX := Lib.hid hxe; clear hxe
  have c9 := h3.tab.blk.cell 9 rfl
  go_upto_region 8 with (fail)
  generalize hw4 : w3.alloc _ = w4
  obtain ⟨k4, Y4, hy4⟩ := box_cells (l := [.bool false, .slice none 0 0]) hw4
  have h4 := h3.kept0 k4
  have hr4 := hr3.kept k4 (by simp)
  have X4 := X3.kept k4 (by simp)
  generalize hye : w3.heap.size = yb at Y4 hy4 hx3 ⊢
  have HW4 := Lib.hid hw4; clear hw4
  have HY := Lib.hid hye; clear hye
  clear c9
  have k04 := ((K2.trans k3).trans k4)
  have g4 := hgb.kept k04 (by simp) (by simp)
  go_upto_if 39 with (fail)
  have hsn : f.name.size ≤ 4000000 := by omega
  have hsv : f.value.size ≤ 4000000 := by omega
  have hrl2 : (encStr f.value ++ rest).length ≤ 8589934592 := by
    have := encStr_len f.value hsv
    rw [List.length_append]; omega
  have hyx : xb < yb := hx3
  go_cut [0, 2, 7, 8, 10, 11, 12] (fun s0 s2 s7 s8 s10 s11 s12 wx => s0 = .pointer (some ⟨d, 0, none⟩) ∧ s2 = .int .i64 it ∧ s8 = .int .u64 i ∧ s10 = .pointer (some ⟨xb, 0, none⟩) ∧ s11 = .bool true ∧ s12 = .pointer (some ⟨yb, 0, none⟩) ∧ RdV wx g s7 (encStr f.value ++ rest) ∧ LitName wx g xb yb i f ∧ Kept [xb, yb] w4 wx)
  case first =>
    by_cases hi : i = 0
    · have hi0 : ¬ 0 < i := by omega
      have hlb : litBytes i f ++ rest = encStr f.name ++ (encStr f.value ++ rest) := by unfold litBytes; rw [if_pos hi, List.append_assoc]
      rw [hlb] at hr4
      have HI := Lib.hid hi; clear hi hlb
      go_wp2_with ((go_at_call 66; refine (read_str d g _ f.name (encStr f.value ++ rest) _ hsn hr4 (h4.tab.blk.cell 10 rfl) hrl2).mono ?_; rintro e w5 ⟨bo, bw, rv, rfl, U5, r5, K5⟩; obtain ⟨pb, nb', cb', rfl⟩ := U5.isSlice; obtain ⟨pr, nr, cr, rfl⟩ := r5.isSlice; have Y5 := Y4.kept K5 (by simp); have y0 := Y5.cell 0 rfl; have y1 := Y5.cell 1 rfl; have f0 := Y5.frozen 0; have f1 := Y5.frozen 1))
      go_meet
      case rel =>
        have kz : Kept [xb, yb] w4 ((w5.setCell ⟨yb, 0, none⟩ (.bool bo)).setCell ⟨yb, 1, none⟩ (.slice pb nb' cb')) := ((K5.mono (by simp)).setCell (by simp) _).setCell (by simp) _
        have kz5 : Kept [yb] w5 ((w5.setCell ⟨yb, 0, none⟩ (.bool bo)).setCell ⟨yb, 1, none⟩ (.slice pb nb' cb')) := ((Kept.refl _ w5).setCell (by simp) _).setCell (by simp) _
        have hgy : g ∉ [yb] := by simp; omega
        refine ⟨rfl, rfl, rfl, rfl, rfl, rfl, r5.kept kz5 hgy, .inr ⟨HI.out, (X4.kept K5 (by simp)).kept kz5 (by simp; omega), bo, _, (Y5.set 0 (.bool bo)).set 1 (.slice pb nb' cb'), U5.keptS kz5 hgy⟩, kz⟩
    · have hi0 : 0 < i := by omega
      obtain ⟨gf, hgf, hnm⟩ := HF.out hi
      have HGF := Lib.hid hgf; clear hgf
      have HNM := Lib.hid hnm; clear hnm
      have hlb : litBytes i f ++ rest = encStr f.value ++ rest := by unfold litBytes; rw [if_neg hi]
      rw [hlb] at hr4
      have HI := Lib.hid hi; clear hi hlb
      go_upto_region 12 with ((go_at_call 63; refine (at_any d T v m1 m2 _ 80 i gf _ h4.tab (by omega) (by omega) h1 HGF.out).mono ?_; rintro e w5 ⟨rfl, K5⟩))
      generalize hw6 : w5.alloc _ = w6
      obtain ⟨k6, Z6, hz6⟩ := box_cells (l := fc gf) hw6
      have X6 := (X4.kept K5 (by simp)).kept k6 (by simp)
      have hr6 := (hr4.kept K5 (by simp)).kept k6 (by simp)
      generalize hze : w5.heap.size = zb at Z6 hz6 ⊢
      have HW6 := Lib.hid hw6; clear hw6
      have HZ := Lib.hid hze; clear hze
      have z0 := Z6.cell 0 rfl
      have x0 := X6.cell 0 rfl
      have f0 := X6.frozen 0
      go_wp2_with fail
      go_meet
      case rel =>
        have kz6 : Kept [xb] w6 (w6.setCell ⟨xb, 0, none⟩ (.string gf.name)) := (Kept.refl _ w6).setCell (by simp) _
        refine ⟨rfl, rfl, rfl, rfl, rfl, rfl, hr6.kept kz6 (by simp; omega), .inl ⟨HI.out, ?_⟩, (((K5.mono (by simp)).trans (k6.mono (by simp))).trans (kz6.mono (by simp)))⟩
        rw [← HNM.out]; exact X6.set 0 (.string gf.name)
  case rest =>
    obtain ⟨rfl, rfl, rfl, rfl, rfl, rfl, r5, hname, k5⟩ := hcut
    obtain ⟨wa, rfl⟩ : ∃ wa : World, wa = wc := ⟨_, rfl⟩
    obtain ⟨p5, n5, cp5, rfl⟩ := r5.isSlice
    have hxd : xb ≠ d := by omega
    have hyd : yb ≠ d := by omega
    have hbs := h2.lt
    have hset5 : ∀ q, q ∈ decSet d v m1 m2 hb hv → q ∉ [xb, yb] := by
      intro q hq
      have := hbs q hq
      have hx := HX.out
      simp; omega
    have h5 := h4.kept k5 hset5
    have g5 := g4.kept k5 (by have := hgb.lt; have := K2.size; have := HX.out; simp; omega) (by have := hgb.lt; have := K2.size; have := HX.out; simp; omega)
    have HNAME := Lib.hid hname; clear hname
    have hrs5 : g < wa.heap.size := by have := k5.size; have := k4.size; omega
    go_upto_region 19 with ((go_at_call 66; refine (read_str d g _ f.value rest _ hsv r5 (h5.tab.blk.cell 10 rfl) (by omega)).mono ?_; rintro e w6 ⟨bo, bw, rv, rfl, U6, r6, K6⟩; obtain ⟨pb, nb', cb', rfl⟩ := U6.isSlice; obtain ⟨pr, nr, cr, rfl⟩ := r6.isSlice))
    have h6 := h5.kept0 K6
    have g6 := g5.kept K6 (by simp) (by simp)
    generalize hw7 : w6.alloc _ = w7
    obtain ⟨k7, Z7, hz7⟩ := box_cells (l := [.bool bo, .slice pb nb' cb']) hw7
    have h7 := h6.kept0 k7
    have g7 := g6.kept k7 (by simp) (by simp)
    have U7 := U6.kept k7
    have r7 := r6.kept k7 (by simp)
    have hgz : g < w6.heap.size := Nat.lt_of_lt_of_le hrs5 K6.size
    have hxw : xb < wa.heap.size ∧ yb < wa.heap.size := by have := k5.size; omega
    have hzw : wa.heap.size ≤ w6.heap.size := K6.size
    generalize hze : w6.heap.size = zb at Z7 hz7 hgz hzw ⊢
    have HW7 := Lib.hid hw7; clear hw7
    have HZ := Lib.hid hze; clear hze
    have hgl7 : g < w7.heap.size := by omega
    have k57 := K6.trans k7
    have hzx : zb ≠ xb := by omega
    have hxw7 : xb < w7.heap.size := by omega
    go_upto_region 20 with (fail)
    go_upto_if 78 with (fail)
    go_cut [0, 2, 7, 8, 10, 15] (fun s0 s2 s7 _ s10 s15 wx => s0 = .pointer (some ⟨d, 0, none⟩) ∧ s2 = .int .i64 it ∧ s7 = .slice pr nr cr ∧ s10 = .pointer (some ⟨xb, 0, none⟩) ∧ s15 = .pointer (some ⟨zb, 0, none⟩) ∧ Blk wx xb [.string f.name, .string ⟨#[]⟩, .bool false] 50 ∧ Kept [xb] w7 wx)
    case first =>
      by_cases hi : i = 0
      · have hi0 : i ≤ 0 := by omega
        obtain ⟨X5, bo2, bw2, Y5, U5⟩ : Blk wa xb [.string ⟨#[]⟩, .string ⟨#[]⟩, .bool false] 50 ∧ ∃ h bv, Blk wa yb [.bool h, bv] 125 ∧ UStr wa g f.name h bv := by
          rcases HNAME.out with ⟨h, _⟩ | ⟨_, h⟩
          · exact absurd hi h
          · exact h
        clear hi
        obtain ⟨pb2, nb2, cb2, rfl⟩ := U5.isSlice
        have X7 := X5.kept k57 (by simp)
        have Y7 := Y5.kept k57 (by simp)
        have y0 := Y7.cell 0 rfl
        have y1 := Y7.cell 1 rfl
        go_wp2_with ((go_at_call 67; refine (dec_str d g bo2 _ f.name _ (h7.tab.blk.cell 10 rfl) (U5.kept k57) g7 hgl7 hsn).mono ?_; rintro e w8 ⟨rfl, K8⟩; have X8 := X7.kept K8 (by simp); have x0 := X8.cell 0 rfl; have f0 := X8.frozen 0))
        go_meet
        case rel => exact ⟨rfl, rfl, rfl, rfl, rfl, X8.set 0 (.string f.name), (K8.mono (by simp)).setCell (by simp) _⟩
      · have hi0 : ¬ i ≤ 0 := by omega
        have X5 : Blk wa xb [.string f.name, .string ⟨#[]⟩, .bool false] 50 := by
          rcases HNAME.out with ⟨_, h⟩ | ⟨h, _⟩
          · exact h
          · exact absurd h hi
        have X7 := X5.kept k57 (by simp)
        go_wp2_with fail
        go_meet
        case rel => exact ⟨rfl, rfl, rfl, rfl, rfl, X7, Kept.refl _ _⟩
    case rest =>
      obtain ⟨rfl, rfl, rfl, rfl, rfl, X8, K8⟩ := hcut
      have hset8 : ∀ q, q ∈ decSet d v m1 m2 hb hv → q ∉ [xb] := by
        intro q hq
        have := hset5 q hq
        simp at this ⊢; exact this.1
      have h8 := h7.kept K8 hset8
      have g8 := g7.kept K8 (by have := hgb.lt; have := K2.size; have := HX.out; simp; omega) (by have := hgb.lt; have := K2.size; have := HX.out; simp; omega)
      have hgx : g ∉ [xb] := by simp; omega
      have U8 := U7.keptS K8 hgx
      have r8 := r7.kept K8 hgx
      have Z8 := Z7.kept K8 (by simpa using hzx)
      have z0 := Z8.cell 0 rfl
      have z1 := Z8.cell 1 rfl
      have hgl8 : g < wc.heap.size := Nat.lt_of_lt_of_le hgl7 K8.size
      go_upto_region 27 with ((go_at_call 67; refine (dec_str d g bo _ f.value _ (h8.tab.blk.cell 10 rfl) U8 g8 hgl8 hsv).mono ?_; rintro e w9 ⟨rfl, K9⟩; have X9 := X8.kept K9 (by simp); have x1 := X9.cell 1 rfl; have f1 := X9.frozen 1))
      have h9 := h8.kept0 K9
      have k10 : Kept [xb] w9 (w9.setCell ⟨xb, 1, none⟩ (.string f.value)) := (Kept.refl _ w9).setCell (by simp) _
      have X10 : Blk (w9.setCell ⟨xb, 1, none⟩ (.string f.value)) xb [.string f.name, .string f.value, .bool false] 50 := X9.set 1 (.string f.value)
      have h10 := h9.kept k10 hset8
      have r10 := (r8.kept K9 (by simp)).kept k10 hgx
      have K90 : Kept [xb, yb] w ((w9.setCell ⟨xb, 1, none⟩ (.string f.value))) := by
        refine (((((k04.mono (by simp)).trans k5).trans (k57.mono (by simp))).trans (K8.mono (by simp))).trans (K9.mono (by simp))).trans (k10.mono (by simp))
      generalize hw10 : w9.setCell _ _ = w10 at X10 h10 r10 K90 ⊢
      have HW10 := Lib.hid hw10; clear hw10
      clear x1 f1 z0 z1
      have f11 := h10.tab.blk.frozen 11
      have c11 := h10.tab.blk.cell 11 rfl
      go_upto_region 28 with (fail)
      obtain ⟨h11, k11⟩ := h10.setBuf (.slice pr nr cr)
      have hgd : g ∉ [d] := by simp; intro e'; exact hg (by simp [decSet, tset, e'])
      have X11 := X10.kept k11 (by simpa using hxd)
      have r11 := r10.kept k11 hgd
      generalize hw11 : w10.setCell _ _ = w11 at h11 k11 X11 r11 ⊢
      have HW11 := Lib.hid hw11; clear hw11
      clear c11 f11
      go_upto_if 104 with ((go_at_call 65; refine (indexed_any it _).mono ?_; rw [HIX.out]; rintro e w' ⟨rfl, rfl⟩))
      have hgt : g ∉ tset d v m1 m2 := fun hx => hg (by simp [decSet] at hx ⊢; simp [hx])
      have hxt : xb ∉ tset d v m1 m2 := by
        intro hx
        have := hset5 xb (by simp [decSet] at hx ⊢; simp [hx])
        simp at this
      go_cut [0, 2, 10] (fun s0 s2 s10 wx => s0 = .pointer (some ⟨d, 0, none⟩) ∧ s2 = .int .i64 it ∧ s10 = .pointer (some ⟨xb, 0, none⟩) ∧ ∃ v', DecRep wx d (litTab ix f T mx) v' m1 m2 mx (.slice pr nr cr) first hb hv l ∧ Kept (tset d v m1 m2) w11 wx ∧ NewBlk w11 v v')
      case first =>
        cases ix
        · go_wp2_with fail
          go_meet
          case rel => exact ⟨rfl, rfl, rfl, v, h11, Kept.refl _ _, .inl rfl⟩
        · have hse0 := HIXS.out rfl
          have hff : f = ⟨f.name, f.value, false⟩ := by cases f; simp at hse0; subst hse0; rfl
          have hTT : fit mx ⟨T.ents ++ [f], T.ev⟩ = fit mx ⟨T.ents ++ [⟨f.name, f.value, false⟩], T.ev⟩ := by rw [← hff]
          have HTT := Lib.hid hTT; clear hTT hff hse0
          have x0 := X11.cell 0 rfl
          have x1 := X11.cell 1 rfl
          have x2 := X11.cell 2 rfl
          have hsum : tsz T.ents + fsz ⟨f.name, f.value, false⟩ < 4294967296 := by
            have := HOK.out.sz; have := HOK.out.mx
            have hz : fsz ⟨f.name, f.value, false⟩ = f.name.size + f.value.size + 32 := rfl
            omega
          have hFB : FBound (⟨f.name, f.value, false⟩ :: T.ents) := by
            intro q hq; simp at hq; rcases hq with rfl | hq
            · show f.name.size + f.value.size ≤ 4000000; omega
            · exact HOK.out.fb q hq
          have HS := Lib.hid hsum; clear hsum
          go_upto_region 29 with (fail)
          go_region_with ((go_at_call 32; refine (add_dyn d T v m1 m2 mx ⟨f.name, f.value, false⟩ _ 80 _ (by exact (h11.kept0 ((Kept.refl [] w11).drew)).tab) (by omega) HS.out hFB).mono ?_; rintro en w12 ⟨v12, rfl, R12, K12, N12⟩))
          all_goals
            go_wp2_with fail
            go_meet
            case rel =>
              refine ⟨rfl, rfl, rfl, v12, ?_, ((Kept.refl _ w11).drew).trans K12, N12.of_later (by simp)⟩
              rw [show litTab true f T mx = fit mx ⟨T.ents ++ [f], T.ev⟩ from rfl, HTT.out]
              exact (h11.kept0 ((Kept.refl [] w11).drew)).newTab K12 R12 N12
      case rest =>
        obtain ⟨rfl, rfl, rfl, v12, h12, K12, N12⟩ := hcut
        replace N12 := Lib.hid N12
        have X12 := X11.kept K12 hxt
        have r12 := r11.kept K12 hgt
        have f2 := X12.frozen 2
        have x2 := X12.cell 2 rfl
        go_upto_region 31 with ((go_at_call 68; refine (sensitive_any it _).mono ?_; rw [HSE.out]; rintro e w' ⟨rfl, rfl⟩))
        have k13 : Kept [xb] wc (wc.setCell ⟨xb, 2, none⟩ (.bool f.sens)) := (Kept.refl _ wc).setCell (by simp) _
        have X13 : Blk (wc.setCell ⟨xb, 2, none⟩ (.bool f.sens)) xb [.string f.name, .string f.value, .bool f.sens] 50 := X12.set 2 (.bool f.sens)
        have hxs : xb < w11.heap.size := X11.lt
        have hset12 : ∀ q, q ∈ decSet d v12 m1 m2 hb hv → q ∉ [xb] := by
          intro q hq
          simp only [List.mem_singleton]
          intro e; subst e
          simp [decSet, tset] at hq
          rcases hq with hq | hq | hq | hq | hq | hq
          · exact hset8 q (by simp [decSet, hq]) (by simp)
          · exact hset8 q (by simp [decSet, tset, hq]) (by simp)
          · exact hset8 q (by simp [decSet, tset, hq]) (by simp)
          · exact hset8 q (by simp [decSet, tset, hq]) (by simp)
          · rcases N12.out with e | ⟨g', e, hg'⟩
            · rw [e] at hq; exact hset8 q (by simp [decSet, tset, hq]) (by simp)
            · rw [e] at hq; cases hq; omega
          · exact hset8 q (by simp [decSet, hq]) (by simp)
        have h13 := h12.kept k13 hset12
        have r13 := r12.kept k13 hgx
        have hgs13 : g ∉ (hb :: hv.ownBlock.toList) := fun hx => hg (by simp [decSet] at hx ⊢; rcases hx with hx | hx <;> simp [hx])
        generalize hw13 : wc.setCell _ _ = w13 at k13 X13 h13 r13 ⊢
        have HW13 := Lib.hid hw13; clear hw13
        clear x2 f2
        have x0 := X13.cell 0 rfl
        have x1 := X13.cell 1 rfl
        have x2 := X13.cell 2 rfl
        go_wp2_with ((go_at_call 64; refine (call_emit d hb hv l f _ (h13.tab.blk.cell 8 rfl) (h13.tab.blk.cell 9 rfl) (h13.tab.blk.cell 10 rfl) h13.box h13.row hl).mono ?_; rintro e w14 ⟨hv14, rfl, B14, R14, K14, N14⟩; replace N14 := Lib.hid N14))
        go_ret
        have r14 := r13.kept K14 hgs13
        have K11 : Kept (d :: [xb, yb]) w w11 := (K90.mono (by simp)).step k11 (by intro q hq; left; simp at hq; simp [hq])
        have hnew : ∀ q, q ∈ [xb, yb] → w.heap.size ≤ q := by
          intro q hq
          have := K2.size; have := HX.out
          simp at hq; omega
        have K13 : Kept (decSet d v m1 m2 hb hv) w w13 := by
          have a1 : Kept (decSet d v m1 m2 hb hv) w w11 := by
            refine ⟨K11.os, K11.tape, K11.output, K11.size, fun k hk hn => K11.block k hk ?_⟩
            intro hm
            simp only [List.mem_cons] at hm
            rcases hm with hm | hm
            · exact hn (by simp [decSet, tset, hm])
            · have := hnew k (by simpa using hm); omega
          refine (a1.step K12 (by intro q hq; left; simp [decSet]; simp [hq])).step k13 ?_
          intro q hq; right; exact hnew q (by simp at hq; simp [hq])
        refine ⟨.slice pr nr cr, v12, hv14, rfl, h13.emitted B14 R14 K14 N14.out, r14, ?_, N12.out.of_later K11.size, N14.out.of_later K13.size⟩
        exact K13.step K14 (by intro q hq; left; simp [decSet] at hq ⊢; rcases hq with hq | hq <;> simp [hq])
end Go.Proofs.YtoceghdnipjkfaaDoor
