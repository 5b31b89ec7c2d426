/-
  The dynamic table: evict, setMaxSize, add, search.
-/
import Derived.Test.YtoceghdnipjkfaaDoorEvict
namespace Go.Proofs.YtoceghdnipjkfaaDoor
open Go.RowKit

def tsz (l : List Fld) : Nat := (l.map fsz).sum
theorem tsz_cons (f : Fld) (l : List Fld) : tsz (f :: l) = fsz f + tsz l := by simp [tsz]
theorem tsz_append (l l' : List Fld) : tsz (l ++ l') = tsz l + tsz l' := by simp [tsz]
/-- how many of the oldest must go, so that the rest is at most mx -/
def evn (mx : Nat) : List Fld → Nat
  | [] => 0
  | f :: r => if tsz (f :: r) ≤ mx then 0 else evn mx r + 1
def fit (mx : Nat) (T : Tab) : Tab := ⟨T.ents.drop (evn mx T.ents), T.ev + evn mx T.ents⟩
theorem evn_le (mx : Nat) : ∀ l, evn mx l ≤ l.length
  | [] => Nat.le_refl _
  | f :: r => by
    simp only [evn]; split
    · omega
    · have := evn_le mx r; simp; omega
theorem tsz_fit (mx : Nat) : ∀ l : List Fld, tsz (l.drop (evn mx l)) ≤ mx
  | [] => Nat.zero_le _
  | f :: r => by
    simp only [evn]; split
    · assumption
    · exact tsz_fit mx r
theorem tsz_drop_le (l : List Fld) (k : Nat) : tsz (l.drop k) ≤ tsz l := by
  induction l generalizing k with
  | nil => simp
  | cons f r ih => cases k with
    | zero => exact Nat.le_refl _
    | succ k => rw [List.drop_succ_cons, tsz_cons]; have := ih k; omega
theorem evn_zero {mx : Nat} {l : List Fld} (h : tsz l ≤ mx) : evn mx l = 0 := by
  cases l with
  | nil => rfl
  | cons f r => simp [evn, h]
theorem evn_step {mx : Nat} {f : Fld} {r : List Fld} (h : mx < tsz (f :: r)) : evn mx (f :: r) = evn mx r + 1 := by
  simp only [evn]; rw [if_neg (by omega)]

/-- the cells of a dynamic table's head -/
def dynl (T : Tab) (v : Value) (m1 m2 sz mx : Nat) (rest : List Value) : List Value := .bool false :: v :: .int .u64 T.ev :: .map (some m1) :: .map (some m2) :: .int .u32 sz :: .int .u32 mx :: rest
def FBound (l : List Fld) : Prop := ∀ f, f ∈ l → f.name.size + f.value.size ≤ 4000000

def EvLoop (w : World) (b : Nat) (T : Tab) (v : Value) (m1 m2 mx : Nat) (rest : List Value) (ty : TypeId) (a : Value) (wr : World) : Prop :=
  ∃ k : Nat, a = .int .i64 k ∧ k ≤ T.ents.length ∧ evn mx T.ents = k + evn mx (T.ents.drop k) ∧ Kept [b] w wr ∧ Blk wr b (dynl T v m1 m2 (tsz (T.ents.drop k)) mx rest) ty
def EvictRet (w : World) (b : Nat) (T : Tab) (v : Value) (m1 m2 mx : Nat) (rest : List Value) (ty : TypeId) (e : Ending) (w' : World) : Prop :=
  ∃ v', e = .returned (.tuple #[]) ∧ TabRep w' b (fit mx T) v' m1 m2 (.int .u32 (tsz (fit mx T).ents) :: .int .u32 mx :: rest) ty ∧ Kept (tset b v m1 m2) w w' ∧ v'.ownBlock = v.ownBlock

set_option maxRecDepth 100000 in
set_option maxHeartbeats 2000000 in
theorem evict_dyn (b : Nat) (T : Tab) (v : Value) (m1 m2 mx : Nat) (rest : List Value) (ty : TypeId) (w : World) (h : TabRep w b T v m1 m2 (.int .u32 (tsz T.ents) :: .int .u32 mx :: rest) ty) (hT : T.ents.length + T.ev < 4294967296) (hs : tsz T.ents < 4294967296) (hF : FBound T.ents) :
    Calls Tryd.prog 43 #[.pointer (some ⟨b, 0, none⟩)] w (EvictRet w b T v m1 m2 mx rest ty) := by
  obtain ⟨p, cap, hv, hcap, hm⟩ := ownsRow_slice h.row
  have HM := Lib.hid hm; clear hm
  have HT := Lib.hid hT
  go_enter Tryd.func43, Tryd.ntmps43
  go_wp2_with fail
  go_loopw [2] (EvLoop w b T v m1 m2 mx rest ty) (fun a _ => T.ents.length - (intOf a).toNat)
  case atStart =>
    exact ⟨0, rfl, Nat.zero_le _, by simp, Kept.refl _ _, h.blk⟩
  case round =>
    obtain ⟨k, rfl, hk, he, kk, B⟩ := hrel
    have c1 := B.cell 1 rfl
    have c5 := B.cell 5 rfl
    have c6 := B.cell 6 rfl
    rw [hv] at c1
    by_cases hlt : mx < tsz (T.ents.drop k)
    · have hgt : decide ((mx : Int) < (tsz (T.ents.drop k) : Int)) = true := by simp; omega
      have hkl : k < T.ents.length := by
        apply Nat.lt_of_not_le; intro hge; rw [List.drop_of_length_le hge] at hlt; exact absurd hlt (by simp [tsz])
      go_wp2_with fail
      go_quiet ((go_at_call 47; exact Calls.quiet_of_same (len_same b _ _ 0 _ _ c1)))
      go_wp2_with fail
      have hf : T.ents[k]? = some T.ents[k] := List.getElem?_eq_getElem hkl
      generalize T.ents[k] = f at hf
      have hdrop : T.ents.drop k = f :: T.ents.drop (k + 1) := by
        rw [List.drop_eq_getElem_cons hkl]
        rw [List.getElem?_eq_getElem hkl] at hf
        rw [Option.some.inj hf]
      have hfb := hF f (List.mem_of_getElem? hf)
      have hsum : tsz (T.ents.drop k) = fsz f + tsz (T.ents.drop (k + 1)) := by rw [hdrop, tsz_cons]
      have hle := tsz_drop_le T.ents k
      have hrow := ownsRow_kept h.row kk (by intro g' hg e; simp at e; exact h.vb (by rw [hg, e]))
      obtain ⟨g, rfl⟩ : ∃ g, p = some ⟨g, 0, none⟩ := by
        rcases h.row.2 with ⟨h0, h1⟩ | ⟨g, cap', cur, h0, _⟩
        · omega
        · rw [hv] at h0; simp at h0; exact ⟨g, h0.1⟩
      rw [hv] at hrow
      obtain ⟨d0, d1, d2⟩ := fld_cells hrow k f hf
      have f5 := B.frozen 5
      have hsz : fsz f = f.name.size + f.value.size + 32 := rfl
      have s1 : (0 : Int) ≤ (k : Int) := by omega
      have s2 : (k : Int) < (T.ents.length : Int) := by omega
      have s3 : IntKind.u32.wrap ((tsz (T.ents.drop k) : Int) - ((f.name.size : Int) + (f.value.size : Int) + 32)) = (tsz (T.ents.drop (k + 1)) : Int) := by
        rw [show (tsz (T.ents.drop k) : Int) - ((f.name.size : Int) + (f.value.size : Int) + 32) = (tsz (T.ents.drop (k + 1)) : Int) from by omega]
        exact IntWalk.u32_in _ (by omega)
      have HD := Lib.hid hdrop; clear hdrop hsum hsz hgt
      have HE := Lib.hid he; clear he
      go_cut [0, 2] (fun s0 s2 wx => s0 = .pointer (some ⟨b, 0, none⟩) ∧ s2 = .int .i64 k ∧ Kept [b] w wx ∧ Blk wx b (dynl T v m1 m2 (tsz (T.ents.drop (k + 1))) mx rest) ty)
      case first =>
        go_region_with ((go_at_call 48; refine (size_any _ _ _ _ (by exact hfb)).mono ?_; rintro e w' ⟨rfl, K⟩; have B' := (B.kept ((Kept.refl [] wr).drewN _) (by simp)).kept K (by simp); have c5' := B'.cell 5 rfl; have f5' := B'.frozen 5))
        all_goals
          go_wp2_with fail
          go_meet
          case rel => exact ⟨rfl, rfl, ((kk.drewN _).step K (by simp)).setCell (by simp) _, B'.set 5 (.int .u32 (tsz (T.ents.drop (k + 1))))⟩
      case rest =>
        obtain ⟨rfl, rfl, kk2, B2⟩ := hcut
        go_wp2_with fail
        refine ⟨⟨k + 1, by go_num, hkl, ?_, kk2, B2⟩, by simp [intOf]; omega⟩
        rw [HE.out, HD.out, evn_step (by rw [← HD.out]; exact hlt)]; omega
    · have hgt : decide ((mx : Int) < (tsz (T.ents.drop k) : Int)) = false := by simp; omega
      have hkn : evn mx T.ents = k := by rw [he, evn_zero (by omega)]; omega
      go_wp2_with fail
      go_quiet ((go_at_call 47; exact Calls.quiet_of_same (len_same b _ _ 0 _ _ c1)))
      go_wp2_with fail
      go_at_call 57
      have R0 : TabRep (wr.drewN nq) b T v m1 m2 (.int .u32 (tsz (T.ents.drop k)) :: .int .u32 mx :: rest) ty := by
        have k2 : Kept [b] w (wr.drewN nq) := kk.drewN _
        obtain ⟨al1, al2, A1, A2, LL⟩ := h.maps
        exact ⟨B.kept ((Kept.refl [] _).drewN _) (by simp), ownsRow_kept h.row k2 (by intro g hg e; simp at e; exact h.vb (by rw [hg, e])), ⟨al1, al2, A1.kept k2 (by simpa using fun e => h.b_m1 e.symm), A2.kept k2 (by simpa using fun e => h.b_m2 e.symm), LL⟩, h.ne, h.vb⟩
      refine (evict_any b T v m1 m2 k _ ty _ R0 HT.out hk).mono ?_
      rintro e w' ⟨v', rfl, R, K, hb⟩
      go_wp2_with fail
      go_end0
      refine ⟨v', rfl, ?_, ?_, hb⟩
      · rw [← hkn] at R
        exact R
      · exact ((kk.mono (by simp [tset])).drewN _).trans K

set_option maxRecDepth 100000 in
set_option maxHeartbeats 2000000 in
theorem set_max (b : Nat) (T : Tab) (v : Value) (m1 m2 mx0 mx : Nat) (rest : List Value) (ty : TypeId) (w : World) (h : TabRep w b T v m1 m2 (.int .u32 (tsz T.ents) :: .int .u32 mx0 :: rest) ty) (hT : T.ents.length + T.ev < 4294967296) (hs : tsz T.ents < 4294967296) (hF : FBound T.ents) :
    Calls Tryd.prog 27 #[.pointer (some ⟨b, 0, none⟩), .int .u32 mx] w (EvictRet w b T v m1 m2 mx rest ty) := by
  have c6 := h.blk.cell 6 rfl
  have f6 := h.blk.frozen 6
  have R : TabRep (w.setCell ⟨b, 6, none⟩ (.int .u32 mx)) b T v m1 m2 (.int .u32 (tsz T.ents) :: .int .u32 mx :: rest) ty := by
    have k : Kept [b] w (w.setCell ⟨b, 6, none⟩ (.int .u32 mx)) := (Kept.refl _ _).setCell (by simp) _
    obtain ⟨al1, al2, A1, A2, LL⟩ := h.maps
    exact ⟨h.blk.set 6 _, ownsRow_kept h.row k (by intro g hg e; simp at e; exact h.vb (by rw [hg, e])), ⟨al1, al2, A1.kept k (by simpa using fun e => h.b_m1 e.symm), A2.kept k (by simpa using fun e => h.b_m2 e.symm), LL⟩, h.ne, h.vb⟩
  go_enter Tryd.func27, Tryd.ntmps27
  go_wp2_with (go_at_call 43; refine (evict_dyn b T v m1 m2 mx rest ty _ R hT hs hF).mono ?_; rintro e w' ⟨v', rfl, R', K, hb⟩)
  go_end0
  exact ⟨v', rfl, R', ((Kept.refl _ w).setCell (by simp [tset]) _).trans K, hb⟩

def DynRet (w : World) (b : Nat) (T' : Tab) (v : Value) (m1 m2 mx : Nat) (rest : List Value) (ty : TypeId) (e : Ending) (w' : World) : Prop :=
  ∃ v', e = .returned (.tuple #[]) ∧ TabRep w' b T' v' m1 m2 (.int .u32 (tsz T'.ents) :: .int .u32 mx :: rest) ty ∧ Kept (tset b v m1 m2) w w' ∧ NewBlk w v v'

set_option maxRecDepth 100000 in
set_option maxHeartbeats 2000000 in
theorem add_dyn (b : Nat) (T : Tab) (v : Value) (m1 m2 mx : Nat) (f : Fld) (rest : List Value) (ty : TypeId) (w : World) (h : TabRep w b T v m1 m2 (.int .u32 (tsz T.ents) :: .int .u32 mx :: rest) ty) (hT : T.ents.length + T.ev < 4294967295) (hs : tsz T.ents + fsz f < 4294967296) (hF : FBound (f :: T.ents)) :
    Calls Tryd.prog 32 #[.pointer (some ⟨b, 0, none⟩), .agg #[.string f.name, .string f.value, .bool f.sens]] w (DynRet w b (fit mx ⟨T.ents ++ [f], T.ev⟩) v m1 m2 mx rest ty) := by
  have hfb := hF f (by simp)
  have hFT : FBound (T.ents ++ [f]) := by intro x hx; apply hF; simp at hx ⊢; exact hx.symm
  have hsz : fsz f = f.name.size + f.value.size + 32 := rfl
  go_enter Tryd.func32, Tryd.ntmps32
  go_wp2_with fail
  generalize hw1 : w.alloc _ = w1
  obtain ⟨k1, X1, hx1⟩ := box_cells (l := fc f) hw1
  have h1 := h.kept k1 (by simp)
  have hxb : w.heap.size ≠ b ∧ w.heap.size ≠ m1 ∧ w.heap.size ≠ m2 ∧ v.ownBlock ≠ some w.heap.size := by
    obtain ⟨al1, al2, a1, a2, _⟩ := h.maps
    refine ⟨by have := h.blk.lt; omega, by have := a1.lt; omega, by have := a2.lt; omega, fun e => by have := (h.row.lt _ e).2; omega⟩
  have hws : w.heap.size = w.heap.size := rfl
  generalize hxe : w.heap.size = xb at hxb X1 hx1 hws ⊢
  obtain ⟨xb_b, xb_m1, xb_m2, v_xb⟩ := hxb
  have HW := Lib.hid hw1; clear hw1
  have HX := Lib.hid hxe; clear hxe hws
  have x0 := X1.cell 0 rfl
  have x1 := X1.cell 1 rfl
  have x2 := X1.cell 2 rfl
  have HT := Lib.hid hT; clear hT
  have HS := Lib.hid hsz; clear hsz
  go_region_with ((go_at_call 49; refine (add_entry b T v m1 m2 _ ty f _ (h1.kept ((Kept.refl [] _).drew) (by simp)) (by have := HT.out; omega)).mono ?_; rintro e w2 ⟨v2, rfl, R2, K2, N2⟩))
  go_wp2_with fail
  have X2 : Blk w2 xb (fc f) 50 := (X1.drew).kept K2 (by simp [tset]; exact ⟨xb_b, xb_m1, xb_m2, fun e => v_xb (by simpa using e)⟩)
  have B2 := R2.blk
  have htz : tsz (T.ents ++ [f]) = tsz T.ents + fsz f := by rw [tsz_append]; simp [tsz]
  go_cut [0] (fun s0 wx => s0 = .pointer (some ⟨b, 0, none⟩) ∧ TabRep wx b ⟨T.ents ++ [f], T.ev⟩ v2 m1 m2 (.int .u32 (tsz (T.ents ++ [f])) :: .int .u32 mx :: rest) ty ∧ Kept [b] w2 wx)
  case first =>
    have x0 := X2.cell 0 rfl
    have x1 := X2.cell 1 rfl
    have x2 := X2.cell 2 rfl
    have c5 := B2.cell 5 rfl
    have f5 := B2.frozen 5
    have s3 : IntKind.u32.wrap ((tsz T.ents : Int) + ((f.name.size : Int) + (f.value.size : Int) + 32)) = (tsz (T.ents ++ [f]) : Int) := by
      have := HS.out
      rw [show (tsz T.ents : Int) + ((f.name.size : Int) + (f.value.size : Int) + 32) = (tsz (T.ents ++ [f]) : Int) from by omega]
      exact IntWalk.u32_in _ (by omega)
    have HTZ := Lib.hid htz; clear htz
    go_region_with ((go_at_call 48; refine (size_any _ _ _ _ (by exact hfb)).mono ?_; rintro e w' ⟨rfl, K⟩; have B' := (B2.drew).kept K (by simp); have c5' := B'.cell 5 rfl; have f5' := B'.frozen 5))
    all_goals
      go_wp2_with fail
      go_meet
      case rel =>
        have kz : Kept [b] w2 (w'.setCell ⟨b, 5, none⟩ (.int .u32 (tsz (T.ents ++ [f])))) := ((((Kept.refl [b] w2).drew).step K (by simp))).setCell (by simp) _
        refine ⟨rfl, ?_, kz⟩
        obtain ⟨al1, al2, A1, A2, LL⟩ := R2.maps
        exact ⟨B'.set 5 (.int .u32 (tsz (T.ents ++ [f]))), ownsRow_kept R2.row kz (by intro g hg e; simp at e; exact R2.vb (by rw [hg, e])), ⟨al1, al2, A1.kept kz (by simpa using fun e => R2.b_m1 e.symm), A2.kept kz (by simpa using fun e => R2.b_m2 e.symm), LL⟩, R2.ne, R2.vb⟩
  case rest =>
    obtain ⟨rfl, R3, K3⟩ := hcut
    go_wp2_with (go_at_call 43; refine (evict_dyn b ⟨T.ents ++ [f], T.ev⟩ v2 m1 m2 mx rest ty _ R3 (by have := HT.out; simp; omega) (by show tsz (T.ents ++ [f]) < _; have := HS.out; omega) hFT).mono ?_; rintro e w' ⟨v', rfl, R', K', hb⟩)
    go_end0
    have k02 : Kept (tset b v m1 m2) w w2 := ((k1.mono (by simp)).drew).trans K2
    have hs0 := k1.size
    refine ⟨v', rfl, R', ?_, ?_⟩
    · refine ((k02.step K3 (by simp [tset])).step K' ?_)
      intro q hq
      simp [tset] at hq ⊢
      rcases hq with hq | hq | hq | hq
      · simp [hq]
      · simp [hq]
      · simp [hq]
      · rcases N2 with e | ⟨g, e, hg⟩
        · rw [e] at hq; simp [hq]
        · rw [e] at hq; simp at hq; subst hq; right; simp at hg; omega
    · have N2' := N2.of_later (w := w) (by simpa using hs0)
      rcases N2' with e | ⟨g, e, hg⟩
      · left; rw [hb, e]
      · right; exact ⟨g, by rw [hb, e], hg⟩
end Go.Proofs.YtoceghdnipjkfaaDoor
