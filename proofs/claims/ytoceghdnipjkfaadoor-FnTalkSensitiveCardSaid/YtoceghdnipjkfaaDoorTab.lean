/-
  The abstract table of hpack.headerFieldTable, and what it is in memory; the contract of addEntry.
-/
import Derived.Test.YtoceghdnipjkfaaDoorLeaf
import Derived.Test.YtoceghdnipjkfaaDoorMaps
namespace Go.Proofs.YtoceghdnipjkfaaDoor
open Go.RowKit

/-- block b is a row of just these cells -/
def Blk (w : World) (b : Nat) (l : List Value) (ty : TypeId) : Prop := w.heap[b]? = some (.cells l.toArray ty (0, 0))
theorem Blk.lt {w : World} {b : Nat} {l : List Value} {ty : TypeId} (h : Blk w b l ty) : b < w.heap.size := (Array.getElem?_eq_some_iff.1 h).1
theorem Blk.cell {w : World} {b : Nat} {l : List Value} {ty : TypeId} (h : Blk w b l ty) (i : Nat) {v : Value} (hi : l[i]? = some v) : w.cell? ⟨b, i, none⟩ = some v := by
  rw [cell_of_row w b i _ _ _ h]; simpa using hi
theorem Blk.frozen {w : World} {b : Nat} {l : List Value} {ty : TypeId} (h : Blk w b l ty) (i : Nat) : w.frozen? ⟨b, i, none⟩ = false := frozen_of_row w b i _ _ h
theorem Blk.set {w : World} {b : Nat} {l : List Value} {ty : TypeId} (h : Blk w b l ty) (i : Nat) (v : Value) : Blk (w.setCell ⟨b, i, none⟩ v) b (l.set i v) ty := by
  unfold Blk at *
  rw [heap_setCell_same w b i _ _ v h]; simp
theorem Blk.setOther {w : World} {b : Nat} {l : List Value} {ty : TypeId} (h : Blk w b l ty) (a : Addr) (hn : b ≠ a.block) (v : Value) : Blk (w.setCell a v) b l ty := by
  unfold Blk at *
  rw [heap_setCell_other w a b v hn]; exact h
theorem Blk.kept {S : List Nat} {w w' : World} {b : Nat} {l : List Value} {ty : TypeId} (h : Blk w b l ty) (hk : Kept S w w') (hn : b ∉ S) : Blk w' b l ty := hk.heap h hn
theorem Blk.drew {w : World} {b : Nat} {l : List Value} {ty : TypeId} (h : Blk w b l ty) : Blk w.drew b l ty := h
theorem Blk.alloc {w : World} {b : Nat} {l : List Value} {ty : TypeId} (h : Blk w b l ty) (o : Obj) : Blk (w.alloc o) b l ty := by
  unfold Blk at *
  rw [Below.heap_alloc w o b (Array.getElem?_eq_some_iff.1 h).1]; exact h
theorem Blk.new (w : World) (l : List Value) (ty : TypeId) : Blk (w.alloc (.cells l.toArray ty)) w.heap.size l ty := heap_alloc_new w _

/-- the number of the newest entry that fits, counted from i on; 0: none -/
def lastId (p : Fld → Bool) : List Fld → Nat → Nat
  | [], _ => 0
  | f :: r, i => if lastId p r (i + 1) ≠ 0 then lastId p r (i + 1) else if p f then i else 0
def hasName (n : ByteArray) (f : Fld) : Bool := decide (f.name = n)
def hasPair (k : ByteArray × ByteArray) (f : Fld) : Bool := decide (f.name = k.1 ∧ f.value = k.2)
def idv (n : Nat) : Option Value := if n = 0 then none else some (.int .u64 n)

theorem lastId_append (p : Fld → Bool) (f : Fld) : ∀ (l : List Fld) (i : Nat), 0 < i → lastId p (l ++ [f]) i = if p f then i + l.length else lastId p l i
  | [], i, h => by simp [lastId]
  | g :: r, i, h => by
    simp only [List.cons_append, lastId, lastId_append p f r (i + 1) (by omega), List.length_cons]
    by_cases hp : p f
    · simp only [hp, if_true]; rw [if_pos (by omega)]; omega
    · simp only [hp]; rfl
theorem lastId_le (p : Fld → Bool) : ∀ (l : List Fld) (i : Nat), lastId p l i = 0 ∨ (i ≤ lastId p l i ∧ lastId p l i < i + l.length)
  | [], _ => .inl rfl
  | g :: r, i => by
    simp only [lastId, List.length_cons]
    rcases lastId_le p r (i + 1) with h | ⟨h1, h2⟩
    · rw [if_neg (by omega)]
      by_cases hp : p g
      · right; simp only [hp, if_true]; omega
      · left; simp [hp]
    · right; rw [if_pos (by omega)]; omega

/-- the entries, oldest first, and how many have been put out -/
structure Tab where
  ents : List Fld
  ev : Nat
/-- a table's head at block b, its other cells rest -/
structure TabRep (w : World) (b : Nat) (T : Tab) (v : Value) (m1 m2 : Nat) (rest : List Value) (ty : TypeId) : Prop where
  blk : Blk w b (.bool false :: v :: .int .u64 T.ev :: .map (some m1) :: .map (some m2) :: rest) ty
  row : w.ownsRow 0 50 3 v T.ents.length (T.ents.flatMap fc)
  maps : ∃ al1 al2, AMap kS w m1 al1 ∧ AMap kP w m2 al2 ∧ Uniq al1 ∧ Uniq al2 ∧ (∀ n, aget al1 n = idv (lastId (hasName n) T.ents (T.ev + 1))) ∧ (∀ k, aget al2 k = idv (lastId (hasPair k) T.ents (T.ev + 1)))
  ne : m1 ≠ m2
  vb : v.ownBlock ≠ some b
def tset (b : Nat) (v : Value) (m1 m2 : Nat) : List Nat := b :: m1 :: m2 :: v.ownBlock.toList

theorem cells_map_ne {w : World} {b m : Nat} {l : Array Value} {ty : TypeId} {fr : Nat × Nat} {es : Array MapEntry} {c : Nat} (h : w.heap[b]? = some (.cells l ty fr)) (h2 : w.heap[m]? = some (.map es c)) : b ≠ m := by
  intro e; subst e; rw [h] at h2; cases h2
theorem TabRep.b_m1 {w : World} {b : Nat} {T : Tab} {v : Value} {m1 m2 : Nat} {rest : List Value} {ty : TypeId} (h : TabRep w b T v m1 m2 rest ty) : b ≠ m1 := by
  obtain ⟨al1, al2, ⟨es, c, h1, _⟩, _⟩ := h.maps
  exact cells_map_ne h.blk h1
theorem TabRep.b_m2 {w : World} {b : Nat} {T : Tab} {v : Value} {m1 m2 : Nat} {rest : List Value} {ty : TypeId} (h : TabRep w b T v m1 m2 rest ty) : b ≠ m2 := by
  obtain ⟨al1, al2, _, ⟨es, c, h1, _⟩, _⟩ := h.maps
  exact cells_map_ne h.blk h1
theorem ownsRow_map_ne {w : World} {e : TypeId} {size : Nat} {v : Value} {n m : Nat} {xs : List Value} {es : Array MapEntry} {c : Nat} (h : w.ownsRow 0 e size v n xs) (h2 : w.heap[m]? = some (.map es c)) : v.ownBlock ≠ some m := by
  intro hv
  rcases h.2 with ⟨rfl, _⟩ | ⟨g, cap, cur, rfl, _, hg, _⟩
  · simp [Value.ownBlock] at hv
  · simp [Value.ownBlock] at hv; subst hv; rw [hg] at h2; cases h2
theorem TabRep.v_m1 {w : World} {b : Nat} {T : Tab} {v : Value} {m1 m2 : Nat} {rest : List Value} {ty : TypeId} (h : TabRep w b T v m1 m2 rest ty) : v.ownBlock ≠ some m1 := by
  obtain ⟨al1, al2, ⟨es, c, h1, _⟩, _⟩ := h.maps
  exact ownsRow_map_ne h.row h1
theorem TabRep.v_m2 {w : World} {b : Nat} {T : Tab} {v : Value} {m1 m2 : Nat} {rest : List Value} {ty : TypeId} (h : TabRep w b T v m1 m2 rest ty) : v.ownBlock ≠ some m2 := by
  obtain ⟨al1, al2, _, ⟨es, c, h1, _⟩, _⟩ := h.maps
  exact ownsRow_map_ne h.row h1
theorem TabRep.kept {S : List Nat} {w w' : World} {b : Nat} {T : Tab} {v : Value} {m1 m2 : Nat} {rest : List Value} {ty : TypeId} (h : TabRep w b T v m1 m2 rest ty) (hk : Kept S w w') (hn : ∀ x, x ∈ tset b v m1 m2 → x ∉ S) : TabRep w' b T v m1 m2 rest ty := by
  obtain ⟨al1, al2, h1, h2, h3⟩ := h.maps
  exact ⟨h.blk.kept hk (hn b (by simp [tset])), ownsRow_kept h.row hk (fun g hg => hn g (by simp [tset, hg])), ⟨al1, al2, h1.kept hk (hn m1 (by simp [tset])), h2.kept hk (hn m2 (by simp [tset])), h3⟩, h.ne, h.vb⟩

theorem info50 : (Tryd.prog.info? 50).map (fun i => (i.zero, i.size, i.bytes)) = some (some (.agg #[.string ⟨#[]⟩, .string ⟨#[]⟩, .bool false]), 3, 40) := by kernel_rfl

/-- what a slice value is: not asked of its row -/
theorem ownsRow_slice {w : World} {e : TypeId} {size : Nat} {v : Value} {n : Nat} {xs : List Value} (h : w.ownsRow 0 e size v n xs) : ∃ p c, v = .slice p n c ∧ n ≤ c ∧ c ≤ maxLen := by
  rcases h.2 with ⟨rfl, rfl⟩ | ⟨g, cap, cur, rfl, _, _, h1, h2, _⟩
  · exact ⟨_, _, rfl, Nat.le_refl _, by unfold maxLen; omega⟩
  · exact ⟨_, _, rfl, h1, h2⟩

/-- a box of the call's own: what it holds, what stays -/
theorem box_cells {w w1 : World} {l : List Value} {ty : TypeId} (h : w.alloc (.cells l.toArray ty) = w1) : Kept [] w w1 ∧ Blk w1 w.heap.size l ty ∧ w.heap.size < w1.heap.size := by
  subst h; exact ⟨(Kept.refl _ _).alloc _, Blk.new w l ty, by simp⟩

/-- one field as what is appended -/
theorem src_fld {w : World} {g : Nat} {cs : Array Value} {ty : TypeId} {fr : Nat × Nat} (hg : w.heap[g]? = some (.cells cs ty fr)) (T : TypeId) (hT : ∃ e, Tryd.prog.underlying T = some (.slice e)) (f : Fld) (hcs : cs.toList = fc f) : Src Tryd.prog 3 T (.slice (some ⟨g, 0, none⟩) 1 1) 1 (fc f) w := by
  obtain ⟨e, hT⟩ := hT
  refine Src.ofSlice _ hT _ 1 1 (fc f) rfl (fun j u hj => ?_) (by intro u hu; simp [fc] at hu; rcases hu with rfl | rfl | rfl <;> rfl)
  rw [Addr.add_lit, Nat.zero_add, cell_of_row w g j _ _ _ hg, ← Array.getElem?_toList, hcs]
  exact hj
theorem flat_snoc (l : List Fld) (f : Fld) : (l ++ [f]).flatMap fc = l.flatMap fc ++ fc f := by simp

theorem maps_add {T : Tab} {f : Fld} {al1 : List (ByteArray × Value)} {al2 : List ((ByteArray × ByteArray) × Value)} (hl1 : ∀ n, aget al1 n = idv (lastId (hasName n) T.ents (T.ev + 1))) (hl2 : ∀ k, aget al2 k = idv (lastId (hasPair k) T.ents (T.ev + 1)))
    (hu1 : Uniq al1) (hu2 : Uniq al2) (x : Value) (hx : x = .int .u64 (T.ents.length + T.ev + 1 : Int)) :
    Uniq (aput al1 f.name x) ∧ Uniq (aput al2 (f.name, f.value) x) ∧ (∀ n, aget (aput al1 f.name x) n = idv (lastId (hasName n) (T.ents ++ [f]) (T.ev + 1))) ∧ (∀ k, aget (aput al2 (f.name, f.value) x) k = idv (lastId (hasPair k) (T.ents ++ [f]) (T.ev + 1))) := by
  refine ⟨uniq_aput _ _ _ hu1, uniq_aput _ _ _ hu2, fun n => ?_, fun k => ?_⟩
  · rw [aget_aput, lastId_append _ _ _ _ (by omega), hl1, hx]
    by_cases e : n = f.name
    · subst e
      simp only [hasName, if_true, decide_true]
      unfold idv; rw [if_neg (by omega)]
      congr 2; omega
    · have e' : ¬ (f.name = n) := fun h => e h.symm
      simp only [hasName, if_neg e, e', decide_false]; rfl
  · rw [aget_aput, lastId_append _ _ _ _ (by omega), hl2, hx]
    by_cases e : k = (f.name, f.value)
    · subst e
      simp only [hasPair, if_true, and_self, decide_true]
      unfold idv; rw [if_neg (by omega)]
      congr 2; omega
    · have e' : ¬ (f.name = k.1 ∧ f.value = k.2) := fun h => e (Prod.ext h.1.symm h.2.symm)
      simp only [hasPair, if_neg e, e', decide_false]; rfl

def AddRet (w : World) (b : Nat) (T : Tab) (v : Value) (m1 m2 : Nat) (rest : List Value) (ty : TypeId) (f : Fld) (e : Ending) (w' : World) : Prop :=
  ∃ v', e = .returned (.tuple #[]) ∧ TabRep w' b ⟨T.ents ++ [f], T.ev⟩ v' m1 m2 rest ty ∧ Kept (tset b v m1 m2) w w' ∧ NewBlk w v v'

theorem Kept.ofSetCell {w : World} (a : Addr) (v : Value) : Kept [a.block] w (w.setCell a v) := (Kept.refl _ w).setCell (by simp) v
theorem NewBlk.ne {w : World} {v v' : Value} {b : Nat} (h : NewBlk w v v') (hv : v.ownBlock ≠ some b) (hb : b < w.heap.size) : v'.ownBlock ≠ some b := by
  rcases h with e | ⟨g, e, hg⟩
  · rw [e]; exact hv
  · rw [e]; intro h; cases h; omega
/-- NewBlk seen from an earlier world -/
theorem NewBlk.of_later {w w1 : World} {v v' : Value} (h : NewBlk w1 v v') (hs : w.heap.size ≤ w1.heap.size) : NewBlk w v v' := by
  rcases h with e | ⟨g, e, hg⟩
  · exact .inl e
  · exact .inr ⟨g, e, by omega⟩

theorem add_end {b : Nat} {T : Tab} {v v4 : Value} {m1 m2 : Nat} {rest : List Value} {ty : TypeId} {f : Fld} {w w3 w4 : World} (h : TabRep w b T v m1 m2 rest ty)
    (k03 : Kept [m1, m2] w w3) (o : Obj) (k34 : Kept v.ownBlock.toList (w3.alloc o).drew w4) (hn : NewBlk (w3.alloc o).drew v v4)
    (row : w4.ownsRow 0 50 3 v4 (T.ents.length + 1) (T.ents.flatMap fc ++ fc f)) {al1 : List (ByteArray × Value)} {al2 : List ((ByteArray × ByteArray) × Value)} (A1 : AMap kS w3 m1 al1) (A2 : AMap kP w3 m2 al2)
    (LL : Uniq al1 ∧ Uniq al2 ∧ (∀ n, aget al1 n = idv (lastId (hasName n) (T.ents ++ [f]) (T.ev + 1))) ∧ (∀ k, aget al2 k = idv (lastId (hasPair k) (T.ents ++ [f]) (T.ev + 1))))
    (B4 : Blk w4 b (.bool false :: v :: .int .u64 T.ev :: .map (some m1) :: .map (some m2) :: rest) ty) : AddRet w b T v m1 m2 rest ty f (.returned (.tuple #[])) (w4.setCell ⟨b, 1, none⟩ v4) := by
  have v_m1 := h.v_m1
  have v_m2 := h.v_m2
  have k34' : Kept v.ownBlock.toList w3 w4 := (((Kept.refl _ w3).alloc o).drew).trans k34
  have k3s : Kept (b :: v.ownBlock.toList) w3 (w4.setCell ⟨b, 1, none⟩ v4) := (k34'.mono (by intro k hk; simp [hk])).setCell (by simp) v4
  have hv4b : v4.ownBlock ≠ some b := hn.ne h.vb (by have := h.blk.lt; have := k03.size; simp; omega)
  refine ⟨v4, rfl, ⟨B4.set 1 v4, ?_, ⟨al1, al2, A1.kept k3s ?_, A2.kept k3s ?_, LL.1, LL.2.1, LL.2.2.1, LL.2.2.2⟩, h.ne, hv4b⟩, ?_, ?_⟩
  · rw [List.length_append, flat_snoc]
    exact ownsRow_kept row (Kept.ofSetCell _ _) (by intro g hg e; simp at e; exact hv4b (by rw [hg, e]))
  · intro hm; simp at hm; rcases hm with hm | hm
    · exact h.b_m1 hm.symm
    · exact v_m1 hm
  · intro hm; simp at hm; rcases hm with hm | hm
    · exact h.b_m2 hm.symm
    · exact v_m2 hm
  · refine (k03.mono (by intro k hk; simp [tset] at hk ⊢; omega)).step k3s (by intro k hk; left; simp [tset] at hk ⊢; rcases hk with hk | hk <;> simp [hk])
  · exact hn.of_later (by have := k03.size; simp; omega)

set_option maxRecDepth 100000 in
set_option maxHeartbeats 2000000 in
theorem add_entry (b : Nat) (T : Tab) (v : Value) (m1 m2 : Nat) (rest : List Value) (ty : TypeId) (f : Fld) (w : World) (h : TabRep w b T v m1 m2 rest ty) (hT : T.ents.length + T.ev < 4294967296) :
    Calls Tryd.prog 49 #[.pointer (some ⟨b, 0, none⟩), .agg #[.string f.name, .string f.value, .bool f.sens]] w (AddRet w b T v m1 m2 rest ty f) := by
  obtain ⟨p, cap, hv, hcap, hm⟩ := ownsRow_slice h.row
  obtain ⟨i0, hi0, hz0, hz1, hz2⟩ := info_parts info50
  go_enter Tryd.func49, Tryd.ntmps49
  go_wp2_with fail
  generalize hw1 : w.alloc _ = w1
  obtain ⟨k1, X1, hx1⟩ := box_cells (l := fc f) hw1
  have h1 := h.kept k1 (by simp)
  have hxb : w.heap.size ≠ b ∧ w.heap.size ≠ m1 ∧ w.heap.size ≠ m2 ∧ v.ownBlock ≠ some w.heap.size := by
    obtain ⟨al1, al2, a1, a2, _⟩ := h.maps
    refine ⟨by have := h.blk.lt; omega, by have := a1.lt; omega, by have := a2.lt; omega, fun e => by have := (h.row.lt _ e).2; omega⟩
  have hws : w.heap.size = w.heap.size := rfl
  generalize hxe : w.heap.size = xb at hxb X1 hx1 hws ⊢
  obtain ⟨xb_b, xb_m1, xb_m2, v_xb⟩ := hxb
  have b_m1 := h.b_m1
  have b_m2 := h.b_m2
  have v_m1 := h.v_m1
  have v_m2 := h.v_m2
  have m1_m2 := h.ne
  have v_b := h.vb
  have B1 := h1.blk
  have R1 := h1.row
  obtain ⟨al1, al2, A1, A2, U1, U2, L1, L2⟩ := h1.maps
  have LL := Lib.hid (maps_add L1 L2 U1 U2 (.int .u64 (T.ents.length + T.ev + 1 : Int)) rfl (f := f)); clear L1 L2 U1 U2
  have HV := Lib.hid hv
  have HW := Lib.hid hw1; clear hw1
  have HX := Lib.hid hxe; clear hxe hws
  have HC := Lib.hid hcap; clear hcap
  have HM := Lib.hid hm; clear hm
  have c1 := B1.cell 1 rfl
  have c2 := B1.cell 2 rfl
  rw [hv] at c1
  clear hv
  go_quiet ((go_at_call 47; exact Calls.quiet_of_same (len_same b _ _ 0 _ _ c1)))
  go_wp2_with fail
  clear c1 c2
  have HT := Lib.hid hT; clear hT
  -- byName
  obtain ⟨w2, hr2, A1', k2⟩ := run_update_a (P := Tryd.prog) (w := w1.drewN (nq + 1)) (keyS Tryd.underlying9) Tryd.underlying67 A1 f.name (.int .u64 (T.ents.length + T.ev + 1 : Int))
  change (Instr.mapUpdate 67 (.map (some m1)) (.string f.name) (.int .u64 (T.ents.length + T.ev + 1 : Int))).run Tryd.prog (w1.drewN (nq + 1)) = .ok () w2 at hr2
  have k12 : Kept [m1] w1 w2 := ((Kept.refl _ w1).drewN _).trans k2
  have A2' := A2.kept k12 (by simpa using m1_m2.symm)
  have B2 := B1.kept k12 (by simpa using b_m1)
  have X2 := X1.kept k12 (by simpa using xb_m1)
  have R2 := ownsRow_kept R1 k12 (by intro g hg e; rw [hg] at v_m1; simp at e; exact v_m1 (by rw [e]))
  have c3 := B1.cell 3 rfl
  have x0 := X1.cell 0 rfl
  go_region_held3 (fun w' => w'.cell? ⟨b, 3, none⟩ = some (.map (some m1)) ∧ w'.cell? ⟨xb, 0, none⟩ = some (.string f.name)) (first | go_keep | exact ⟨B2.cell 3 rfl, X2.cell 0 rfl⟩) (fail)
  go_wp2_with fail
  clear c3 x0 hr2
  -- byNameValue
  obtain ⟨w3, hr3, A2'', k3⟩ := run_update_a (P := Tryd.prog) (w := w2.drew) keyP Tryd.underlying68 A2' (f.name, f.value) (.int .u64 (T.ents.length + T.ev + 1 : Int))
  change (Instr.mapUpdate 68 (.map (some m2)) (.agg #[.string f.name, .string f.value]) (.int .u64 (T.ents.length + T.ev + 1 : Int))).run Tryd.prog w2.drew = .ok () w3 at hr3
  have k23 : Kept [m2] w2 w3 := ((Kept.refl _ w2).drew).trans k3
  have A1'' := A1'.kept k23 (by simpa using m1_m2)
  have B3 := B2.kept k23 (by simpa using b_m2)
  have X3 := X2.kept k23 (by simpa using xb_m2)
  have R3 := ownsRow_kept R2 k23 (by intro g hg e; rw [hg] at v_m2; simp at e; exact v_m2 (by rw [e]))
  have c4 := B2.cell 4 rfl
  have x0 := X2.cell 0 rfl
  have x1 := X2.cell 1 rfl
  go_region_held3 (fun w' => w'.cell? ⟨b, 4, none⟩ = some (.map (some m2)) ∧ w'.cell? ⟨xb, 0, none⟩ = some (.string f.name) ∧ w'.cell? ⟨xb, 1, none⟩ = some (.string f.value)) (first | go_keep | exact ⟨B3.cell 4 rfl, X3.cell 0 rfl, X3.cell 1 rfl⟩) (fail)
  go_wp2_with fail
  clear c4 x0 x1 hr3
  -- ents
  have c1 := B3.cell 1 rfl
  rw [HV.out] at c1
  have x0 := X3.cell 0 rfl
  have x1 := X3.cell 1 rfl
  have x2 := X3.cell 2 rfl
  have hrow := R3
  rw [HV.out] at hrow
  have hlt := B3.lt
  have hltx := X3.lt
  go_region_law ((refine step_app _ (by rfl) _ _ 46 46 (by rfl) 50 i0 _ 3 40 Tryd.underlying46 hi0 hz0 hz1 hz2 rfl _ T.ents.length (T.ents.flatMap fc) (by rfl) (World.ownsRow.drew (World.ownsRow.alloc hrow _)) (.slice (some ⟨w3.heap.size, 0, none⟩) 1 1) (by rfl) 1 (fc f) ((src_fld (w := (w3.alloc _).drew) (heap_alloc_new w3 _) 46 ⟨_, Tryd.underlying46⟩ f (by rfl))) (by have := HT.out; unfold maxLen; omega) (by have := HT.out; omega) ?_; intro v4 w4 h41 h42 h43 h44; obtain ⟨p4, c4, rfl, h45⟩ := ownsRow_slice h41; have B4 := ((B3.alloc _).drew).kept h42 (by rw [← HV.out]; simpa [eq_comm] using v_b); have f4 := B4.frozen 1; have c5 := B4.cell 1 rfl))
  all_goals
    go_wp2_with fail
    go_end0
    rw [← HV.out] at h42 h43
    exact add_end h (((k1.mono (by simp)).step k12 (by simp)).step k23 (by simp)) _ h42 h43 h41 A1'' A2'' LL.out B4
#print axioms add_entry
end Go.Proofs.YtoceghdnipjkfaaDoor
