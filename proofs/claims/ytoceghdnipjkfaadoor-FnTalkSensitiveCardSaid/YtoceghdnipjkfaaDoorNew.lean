/-
  NewEncoder, NewDecoder, SetMaxDynamicTableSize.
-/
import Derived.Test.YtoceghdnipjkfaaDoorDrep
import Derived.Test.YtoceghdnipjkfaaDoorPlain
namespace Go.Proofs.YtoceghdnipjkfaaDoor
open Go.RowKit
attribute [local irreducible] st

def InitRet (w : World) (b : Nat) (x0 x1 x2 : Value) (rest : List Value) (ty : TypeId) (e : Ending) (w' : World) : Prop :=
  ∃ m1 m2, e = .returned (.tuple #[]) ∧ AMap kS w' m1 [] ∧ AMap kP w' m2 [] ∧ m1 ≠ m2 ∧ w.heap.size ≤ m1 ∧ w.heap.size ≤ m2 ∧ Blk w' b (x0 :: x1 :: x2 :: .map (some m1) :: .map (some m2) :: rest) ty ∧ Kept [b] w w'
set_option maxRecDepth 100000 in
set_option maxHeartbeats 1000000 in
theorem init_any (b : Nat) (x0 x1 x2 x3 x4 : Value) (rest : List Value) (ty : TypeId) (w : World) (B : Blk w b (x0 :: x1 :: x2 :: x3 :: x4 :: rest) ty) :
    Calls Tryd.prog 26 #[.pointer (some ⟨b, 0, none⟩)] w (InitRet w b x0 x1 x2 rest ty) := by
  have hmm := @run_makeMap Tryd.prog
  have c3 := B.cell 3 rfl
  have f3 := B.frozen 3
  have c4 := B.cell 4 rfl
  have f4 := B.frozen 4
  have hb := B.lt
  go_enter Tryd.func26, Tryd.ntmps26
  go_wp2_with fail
  go_end0
  have A1 := AMap.new (kv := kS) ((w.setCell ⟨b, 3, none⟩ (.map (some w.heap.size))).setCell ⟨b, 4, none⟩ (.map (some (w.heap.size + 1))))
  have A2 := AMap.new (kv := kP) (((w.setCell ⟨b, 3, none⟩ (.map (some w.heap.size))).setCell ⟨b, 4, none⟩ (.map (some (w.heap.size + 1)))).alloc (.map #[] 0))
  have e1 : ((w.setCell ⟨b, 3, none⟩ (.map (some w.heap.size))).setCell ⟨b, 4, none⟩ (.map (some (w.heap.size + 1)))).heap.size = w.heap.size := by simp
  have e2 : (((w.setCell ⟨b, 3, none⟩ (.map (some w.heap.size))).setCell ⟨b, 4, none⟩ (.map (some (w.heap.size + 1)))).alloc (.map #[] 0)).heap.size = w.heap.size + 1 := by simp
  rw [e1] at A1
  rw [e2] at A2
  have A1' := A1.kept ((Kept.refl [] _).alloc (.map #[] 0)) (by simp)
  have B3 := (((B.set 3 (.map (some w.heap.size))).set 4 (.map (some (w.heap.size + 1)))).alloc (.map #[] 0)).alloc (.map #[] 0)
  refine ⟨w.heap.size, w.heap.size + 1, rfl, A1', A2, by omega, Nat.le_refl _, by omega, B3, ?_⟩
  exact (((((Kept.refl [b] w).setCell (by simp) _).setCell (by simp) _).alloc _).alloc _)

theorem TabRep.fresh {w : World} {b m1 m2 : Nat} {rest : List Value} {ty : TypeId} (B : Blk w b (.bool false :: .slice none 0 0 :: .int .u64 0 :: .map (some m1) :: .map (some m2) :: rest) ty) (A1 : AMap kS w m1 []) (A2 : AMap kP w m2 []) (h : m1 ≠ m2) : TabRep w b ⟨[], 0⟩ (.slice none 0 0) m1 m2 rest ty :=
  ⟨B, World.ownsRow_nil w 0 50 3, ⟨[], [], A1, A2, by simp [Uniq], by simp [Uniq], fun n => rfl, fun n => rfl⟩, h, by simp [Value.ownBlock]⟩
theorem fit_empty (mx : Nat) : fit mx ⟨[], 0⟩ = ⟨[], 0⟩ := rfl
theorem ownBlock_none {v : Value} (h : v.ownBlock = none) {w : World} {e : TypeId} {s : Nat} {xs : List Value} (hr : w.ownsRow 0 e s v 0 xs) : v = .slice none 0 0 := by
  rcases hr.2 with ⟨rfl, _⟩ | ⟨g, cap, cur, rfl, _⟩
  · rfl
  · simp [Value.ownBlock] at h

def NewRet (w : World) (R : List Value) (ty : TypeId) (e : Ending) (w' : World) : Prop :=
  ∃ m1 m2, e = .returned (.pointer (some ⟨w.heap.size, 0, none⟩)) ∧ w.heap.size < m1 ∧ w.heap.size < m2 ∧ TabRep w' w.heap.size ⟨[], 0⟩ (.slice none 0 0) m1 m2 R ty ∧ Kept [] w w'
set_option maxRecDepth 100000 in
set_option maxHeartbeats 1000000 in
theorem new_enc (k : Nat) (w : World) :
    Calls Tryd.prog 13 #[.iface 41 (.pointer (some ⟨k, 0, none⟩))] w (NewRet w (encRest 0 4096 4294967295 false k (.slice none 0 0)) 74) := by
  go_enter Tryd.func13, Tryd.ntmps13
  go_upto_region 2 with (fail)
  generalize hw1 : w.alloc _ = w1
  obtain ⟨k1, X1, hx1⟩ := box_cells (l := .bool false :: .slice none 0 0 :: .int .u64 0 :: .map none :: .map none :: encRest 0 0 4294967295 false k (.slice none 0 0)) hw1
  generalize hxe : w.heap.size = xb at X1 hx1 ⊢
  have HW := Lib.hid hw1; clear hw1
  have HX := Lib.hid hxe; clear hxe
  go_upto_region 3 with ((go_at_call 26; refine (init_any xb _ _ _ _ _ _ 74 _ X1).mono ?_; rintro e w2 ⟨m1, m2, rfl, A1, A2, hne, hm1, hm2, B2, K2⟩))
  have hT := TabRep.fresh B2 A1 A2 hne
  have HNE := Lib.hid hne; clear hne
  go_wp2_with ((go_at_call 27; refine (set_max xb ⟨[], 0⟩ _ m1 m2 0 4096 _ 74 _ hT (by decide) (by decide) (by intro f hf; cases hf)).mono ?_; rintro e w3 ⟨v3, rfl, R3, K3, hb3⟩))
  go_ret
  have hv : v3 = .slice none 0 0 := ownBlock_none hb3 R3.row
  subst hv
  have hx := HX.out
  subst hx
  refine ⟨m1, m2, rfl, by omega, by omega, R3, ?_⟩
  have hx1' : Kept [] w w1 := k1
  exact ((hx1'.step K2 (by intro q hq; right; simp at hq; omega)).step K3 (by intro q hq; right; simp [tset, Value.ownBlock] at hq; omega))
set_option maxRecDepth 100000 in
set_option maxHeartbeats 1000000 in
theorem new_dec (hb : Nat) (w : World) :
    Calls Tryd.prog 14 #[.int .u32 4096, emV hb] w (NewRet w (decRest 0 4096 hb (.slice none 0 0) true) 80) := by
  unfold emV
  go_enter Tryd.func14, Tryd.ntmps14
  go_upto_region 2 with (fail)
  generalize hw1 : w.alloc _ = w1
  obtain ⟨k1, X1, hx1⟩ := box_cells (l := .bool false :: .slice none 0 0 :: .int .u64 0 :: .map none :: .map none :: [.int .u32 0, .int .u32 0, .int .u32 0, emV hb, .bool true, .int .i64 0, .slice none 0 0, .slice none 0 0, .int .i64 0, .int .i8 0, .bool true]) hw1
  generalize hxe : w.heap.size = xb at X1 hx1 ⊢
  have HW := Lib.hid hw1; clear hw1
  have HX := Lib.hid hxe; clear hxe
  go_upto_region 3 with ((go_at_call 26; refine (init_any xb _ _ _ _ _ _ 80 _ X1).mono ?_; rintro e w2 ⟨m1, m2, rfl, A1, A2, hne, hm1, hm2, B2, K2⟩))
  have hT0 := TabRep.fresh B2 A1 A2 hne
  have HNE := Lib.hid hne; clear hne
  have f7 := B2.frozen 7
  have c7 := B2.cell 7 rfl
  have hT := hT0.setRest 2 (.int .u32 4096)
  go_upto_region 4 with (fail)
  have k3 : Kept [xb] w2 (w2.setCell ⟨xb, 7, none⟩ (.int .u32 4096)) := (Kept.refl _ _).setCell (by simp) _
  generalize hw3 : w2.setCell _ _ = w3 at hT k3 ⊢
  have HW3 := Lib.hid hw3; clear hw3
  clear c7 f7
  go_wp2_with ((go_at_call 27; refine (set_max xb ⟨[], 0⟩ _ m1 m2 0 4096 _ 80 _ hT (by decide) (by decide) (by intro f hf; cases hf)).mono ?_; rintro e w4 ⟨v4, rfl, R4, K4, hb4⟩))
  go_ret
  have hv : v4 = .slice none 0 0 := ownBlock_none hb4 R4.row
  subst hv
  have hx := HX.out
  subst hx
  refine ⟨m1, m2, rfl, by omega, by omega, R4, ?_⟩
  have hx1' : Kept [] w w1 := k1
  exact (((hx1'.step K2 (by intro q hq; right; simp at hq; omega)).step k3 (by intro q hq; right; simp at hq; omega)).step K4 (by intro q hq; right; simp [tset, Value.ownBlock] at hq; omega))
/-- the table changed, with another bound -/
theorem SendRep.newTabMx {w w1 : World} {e k : Nat} {T : Tab} {v : Value} {m1 m2 mx mn : Nat} {upd : Bool} {bv sv : Value} {sent l : List UInt8} (h : SendRep w e k T v m1 m2 mx mn upd bv sv sent l) {T' : Tab} {v' : Value} {mx' : Nat} (hk : Kept (tset e v m1 m2) w w1) (ht : TabRep w1 e T' v' m1 m2 (encRest (tsz T'.ents) mx' mn upd k bv) 74) : SendRep w1 e k T' v' m1 m2 mx' mn upd bv sv sent l := by
  obtain ⟨⟨n1, n2, n3, n4, n5⟩, ⟨n6, n7, n8, n9, n10⟩, n11, n12, n13, n14⟩ := h.ne
  refine ⟨ht, ownsRow_kept h.buf hk ?_, h.sink.kept hk ?_, ownsRow_kept h.srow hk ?_, h.bs⟩
  · intro g hg; simp [tset]; exact ⟨fun e' => n1 (by rw [hg, e']), fun e' => n3 (by rw [hg, e']), fun e' => n4 (by rw [hg, e']), fun e' => n5 g e' hg⟩
  · simp [tset]; exact ⟨n11, n12, n13, fun e' => n14 e'⟩
  · intro g hg; simp [tset]; exact ⟨fun e' => n6 (by rw [hg, e']), fun e' => n8 (by rw [hg, e']), fun e' => n9 (by rw [hg, e']), fun e' => n10 g e' hg⟩
def SetMaxRet (w : World) (e k : Nat) (T : Tab) (v : Value) (m1 m2 mx : Nat) (bv sv : Value) (sent l : List UInt8) (en : Ending) (w' : World) : Prop :=
  ∃ v', en = .returned (.tuple #[]) ∧ SendRep w' e k (fit mx T) v' m1 m2 mx mx true bv sv sent l ∧ Kept (tset e v m1 m2) w w' ∧ v'.ownBlock = v.ownBlock
set_option maxRecDepth 100000 in
set_option maxHeartbeats 2000000 in
theorem set_enc (e k : Nat) (T : Tab) (v : Value) (m1 m2 mx n n' : Nat) (upd : Bool) (bv sv : Value) (sent l : List UInt8) (w : World) (h : SendRep w e k T v m1 m2 mx 4294967295 upd bv sv sent l) (hok : TOk T mx) (hn : n < 4294967296) (hn' : min n 4096 = n') :
    Calls Tryd.prog 16 #[.pointer (some ⟨e, 0, none⟩), .int .u32 n] w (SetMaxRet w e k T v m1 m2 n' bv sv sent l) := by
  have c9 := h.tab.blk.cell 9 rfl
  have c8 := h.tab.blk.cell 8 rfl
  have f8 := h.tab.blk.frozen 8
  have he := h.tab.blk.lt
  obtain ⟨h1, k1⟩ := h.setMn n'
  obtain ⟨h2, k2⟩ := h1.setUpd true
  have f10 := h1.tab.blk.frozen 10
  have c10 := h1.tab.blk.cell 10 rfl
  have hTl := hok.len
  have hTs : tsz T.ents < 4294967296 := by have := hok.sz; have := hok.mx; omega
  have hTF := hok.fb
  have HOK := Lib.hid hok; clear hok
  have b8 : decide ((n' : Int) < 4294967295) = true := by simp; omega
  have hw : Kept [e] w ((w.setCell ⟨e, 8, none⟩ (.int .u32 n')).setCell ⟨e, 10, none⟩ (.bool true)) := k1.trans k2
  have HN := Lib.hid hn'
  by_cases h9 : 4096 < n
  · have hn2 : n' = 4096 := by omega
    subst hn2
    clear hn'
    have b9 : decide ((4096 : Int) < (n : Int)) = true := by simp; omega
    have h2 : SendRep ((w.setCell ⟨e, 8, none⟩ (.int .u32 4096)).setCell ⟨e, 10, none⟩ (.bool true)) e k T v m1 m2 mx 4096 true bv sv sent l := h2
    have f10 : (w.setCell ⟨e, 8, none⟩ (.int .u32 4096)).frozen? ⟨e, 10, none⟩ = false := f10
    have c10 : (w.setCell ⟨e, 8, none⟩ (.int .u32 4096)).cell? ⟨e, 10, none⟩ = some (.bool upd) := c10
    go_enter Tryd.func16, Tryd.ntmps16
    go_wp2_with ((go_at_call 27; refine (set_max e T v m1 m2 mx 4096 _ 74 _ h2.tab (by omega) hTs hTF).mono ?_; rintro en w3 ⟨v3, rfl, R3, K3, hb3⟩))
    go_end0
    exact ⟨v3, rfl, h2.newTabMx K3 R3, (hw.mono (by intro q hq; simp at hq; simp [tset, hq])).trans K3, hb3⟩
  · have hn2 : n' = n := by omega
    subst hn2
    clear hn'
    have b9 : decide ((4096 : Int) < (n' : Int)) = false := by simp; omega
    go_enter Tryd.func16, Tryd.ntmps16
    go_wp2_with ((go_at_call 27; refine (set_max e T v m1 m2 mx n' _ 74 _ h2.tab (by omega) hTs hTF).mono ?_; rintro en w3 ⟨v3, rfl, R3, K3, hb3⟩))
    go_end0
    exact ⟨v3, rfl, h2.newTabMx K3 R3, (hw.mono (by intro q hq; simp at hq; simp [tset, hq])).trans K3, hb3⟩
end Go.Proofs.YtoceghdnipjkfaaDoor
