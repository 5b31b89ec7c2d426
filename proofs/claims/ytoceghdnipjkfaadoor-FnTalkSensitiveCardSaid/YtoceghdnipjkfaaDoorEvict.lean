/-
  evictOldest puts the n oldest entries out of the table.
-/
import Derived.Test.YtoceghdnipjkfaaDoorTab
namespace Go.Proofs.YtoceghdnipjkfaaDoor
open Go.RowKit

/-- delete as one step of a region that draws -/
theorem step_del {P : Program} {K : Type} [DecidableEq K] {kv : K → Value} {kt et t u : TypeId} (hk : KeyT P kt kv) (ht : P.underlying t = some (.map kt et)) {ops : Array Oper} {o : Oper} {a : Act} {w : World} {KK : Act → World → Prop} {Q : Exit → Act → World → Prop} {E : Prop} (hgd : o.guard = none) (d x : Operand)
    (ho : o.op = .call { callee := .builtin .delete, args := #[d, x], argTypes := #[t, u] }) (m : Nat) (k : K) (hd : a.eval d = .map (some m)) (hx : a.eval x = kv k) {al : List (K × Value)} (hm : AMap kv w m al)
    (h : ∀ w', AMap kv w' m (adel al k) → Kept [m] w w' → KK (a.put o.dst (.tuple #[])) w') :
    if Region.wanted o (yielded ops a.tmps) = true then Oper.wp P o a w KK Q else E := by
  have hw : Region.wanted o (yielded ops a.tmps) = true := by simp [Region.wanted, hgd]
  rw [if_pos hw]
  obtain ⟨w', hr, h2, h3⟩ := run_delete_a (P := P) (w := w) hk ht hm k u o.type
  unfold Oper.wp execOp
  simp only [ho, resolve, invoke, builtin, Sem.run_bind, Sem.run_pure, Result.andThen_ok, List.map_toArray, List.map_cons, List.map_nil, hd, hx, hr]
  exact h w' h2 h3

theorem flat_length (l : List Fld) : (l.flatMap fc).length = l.length * 3 := by
  induction l with
  | nil => rfl
  | cons f r ih => simp [fc] at ih ⊢; omega
theorem flat_get (l : List Fld) (k : Nat) (f : Fld) (h : l[k]? = some f) : (l.flatMap fc)[k * 3]? = some (.string f.name) ∧ (l.flatMap fc)[k * 3 + 1]? = some (.string f.value) ∧ (l.flatMap fc)[k * 3 + 2]? = some (.bool f.sens) := by
  induction l generalizing k with
  | nil => cases h
  | cons x r ih =>
    cases k with
    | zero => simp at h; subst h; exact ⟨rfl, rfl, rfl⟩
    | succ k =>
      have := ih k (by simpa using h)
      have e : (x :: r).flatMap fc = .string x.name :: .string x.value :: .bool x.sens :: r.flatMap fc := rfl
      rw [e, show (k + 1) * 3 = k * 3 + 3 from by omega, show k * 3 + 3 + 1 = k * 3 + 1 + 3 from by omega, show k * 3 + 3 + 2 = k * 3 + 2 + 3 from by omega]
      simpa using this
/-- the cells of field k of a row -/
theorem fld_cells {w : World} {e : TypeId} {g n cap : Nat} {l : List Fld} (h : w.ownsRow 0 e 3 (.slice (some ⟨g, 0, none⟩) n cap) n (l.flatMap fc)) (k : Nat) (f : Fld) (hf : l[k]? = some f) :
    w.cell? ⟨g, k * 3, none⟩ = some (.string f.name) ∧ w.cell? ⟨g, k * 3 + 1, none⟩ = some (.string f.value) ∧ w.cell? ⟨g, k * 3 + 2, none⟩ = some (.bool f.sens) := by
  have hc := h.cells (g := g) rfl
  obtain ⟨h0, h1, h2⟩ := flat_get l k f hf
  have a0 := hc _ _ h0
  have a1 := hc _ _ h1
  have a2 := hc _ _ h2
  rw [Addr.add_lit, Nat.zero_add] at a0 a1 a2
  exact ⟨a0, a1, a2⟩

theorem idv_getD (n : Nat) : (idv n).getD (.int .u64 0) = .int .u64 (n : Int) := by
  unfold idv; split
  · rename_i h; subst h; rfl
  · rfl
theorem lastId_cons_false {p : Fld → Bool} {f : Fld} {r : List Fld} {i : Nat} (h : p f = false) : lastId p (f :: r) i = lastId p r (i + 1) := by
  simp only [lastId, h]
  split
  · rfl
  · rename_i h; simp at h ⊢; omega
theorem lastId_cons_ne {p : Fld → Bool} {f : Fld} {r : List Fld} {i : Nat} (h : lastId p (f :: r) i ≠ i) (_hi : 0 < i) : lastId p (f :: r) i = lastId p r (i + 1) := by
  simp only [lastId] at h ⊢
  split at h
  · rename_i h'; rw [if_pos h']
  · rename_i h'
    split at h
    · exact absurd rfl h
    · rename_i hp; rw [if_neg h', if_neg hp]; simp at h'; omega
theorem lastId_cons_eq {p : Fld → Bool} {f : Fld} {r : List Fld} {i : Nat} (h : lastId p (f :: r) i = i) : lastId p r (i + 1) = 0 := by
  rcases lastId_le p r (i + 1) with h' | h'
  · exact h'
  · simp only [lastId] at h
    rw [if_pos (by omega)] at h
    omega

/-- what deleting the oldest of f :: r (number i) leaves of the first map .. -/
theorem del_name {al : List (ByteArray × Value)} {f : Fld} {r : List Fld} {i : Nat} (hu : Uniq al) (hi : 0 < i) (h : ∀ x, aget al x = idv (lastId (hasName x) (f :: r) i)) :
    (lastId (hasName f.name) (f :: r) i = i → ∀ x, aget (adel al f.name) x = idv (lastId (hasName x) r (i + 1))) ∧ (lastId (hasName f.name) (f :: r) i ≠ i → ∀ x, aget al x = idv (lastId (hasName x) r (i + 1))) := by
  refine ⟨fun he x => ?_, fun he x => ?_⟩
  · rw [aget_adel _ _ _ hu]
    by_cases e : x = f.name
    · rw [if_pos e, e, lastId_cons_eq he]; rfl
    · rw [if_neg e, h, lastId_cons_false (by simp [hasName]; exact fun h => e h.symm)]
  · rw [h]
    by_cases e : x = f.name
    · rw [e, lastId_cons_ne he hi]
    · rw [lastId_cons_false (by simp [hasName]; exact fun h => e h.symm)]
theorem del_pair {al : List ((ByteArray × ByteArray) × Value)} {f : Fld} {r : List Fld} {i : Nat} (hu : Uniq al) (hi : 0 < i) (h : ∀ x, aget al x = idv (lastId (hasPair x) (f :: r) i)) :
    (lastId (hasPair (f.name, f.value)) (f :: r) i = i → ∀ x, aget (adel al (f.name, f.value)) x = idv (lastId (hasPair x) r (i + 1))) ∧ (lastId (hasPair (f.name, f.value)) (f :: r) i ≠ i → ∀ x, aget al x = idv (lastId (hasPair x) r (i + 1))) := by
  have hne : ∀ x : ByteArray × ByteArray, ¬ x = (f.name, f.value) → hasPair x f = false := by
    intro x e; simp only [hasPair, decide_eq_false_iff_not]; exact fun h => e (Prod.ext h.1.symm h.2.symm)
  refine ⟨fun he x => ?_, fun he x => ?_⟩
  · rw [aget_adel _ _ _ hu]
    by_cases e : x = (f.name, f.value)
    · rw [if_pos e, e, lastId_cons_eq he]; rfl
    · rw [if_neg e, h, lastId_cons_false (hne x e)]
  · rw [h]
    by_cases e : x = (f.name, f.value)
    · rw [e, lastId_cons_ne he hi]
    · rw [lastId_cons_false (hne x e)]

/-- copy within one row of elements of three cells -/
theorem run_copy3 {P : Program} (w : World) (T e ty : TypeId) (i : TypeInfo) (ht : P.underlying T = some (.slice e)) (hi : P.info? e = some i) (hsz : i.size = 3) (g L cap : Nat) (cur : Array Value) (hg : w.heap[g]? = some (.cells cur e (0, 0)))
    (ad : Addr) (m c : Nat) (cs : List Value) (hl : cs.length = m * 3) (hc : ∀ j u, cs[j]? = some u → w.cell? (ad.add j) = some u) (h1 : ∀ u ∈ cs, u.oneCell' = true) (hm : m ≤ L) (hfit : cs.length ≤ cur.size) :
    (Builtin.copy_ #[T, T] ty #[.slice (some ⟨g, 0, none⟩) L cap, .slice (some ad) m c]).run P w = .ok (goInt m) (w.setRow g (cs ++ cur.toList.drop (m * 3)).toArray) := by
  rw [← hl]
  have hf := run_firstCells_some (P := P) w 3 m ad m c cs hl hc
  have hst := run_storeCells_at P g 0 e cs 0 cur w hg (by simpa using hfit) h1
  simp only [Nat.add_zero, Nat.zero_add, List.take_zero, List.nil_append] at hst
  have hmin : Nat.min m L = m := Nat.min_eq_left hm
  simp [Builtin.copy_, run_underlying ht, Builtin.lenOf, hmin, sizeOf, typeInfo, hi, hsz, hf, hst]
theorem step_copy3 {P : Program} {ops : Array Oper} {o : Oper} {a : Act} {w : World} {KK : Act → World → Prop} {Q : Exit → Act → World → Prop} {E : Prop} (T e : TypeId) (i : TypeInfo) (ht : P.underlying T = some (.slice e)) (hi : P.info? e = some i) (hsz : i.size = 3)
    (hgd : o.guard = none) (d s : Operand) (ho : o.op = .call { callee := .builtin .copy, args := #[d, s], argTypes := #[T, T] })
    (g L cap : Nat) (cur : Array Value) (hd : a.eval d = .slice (some ⟨g, 0, none⟩) L cap) (hg : w.heap[g]? = some (.cells cur e (0, 0)))
    (ad : Addr) (m c : Nat) (hs : a.eval s = .slice (some ad) m c) (cs : List Value) (hl : cs.length = m * 3) (hc : ∀ j u, cs[j]? = some u → w.cell? (ad.add j) = some u) (h1 : ∀ u ∈ cs, u.oneCell' = true) (hm : m ≤ L) (hfit : cs.length ≤ cur.size)
    (h : KK (a.put o.dst (goInt m)) (w.setRow g (cs ++ cur.toList.drop (m * 3)).toArray)) :
    if Region.wanted o (yielded ops a.tmps) = true then Oper.wp P o a w KK Q else E := by
  have hw : Region.wanted o (yielded ops a.tmps) = true := by simp [Region.wanted, hgd]
  rw [if_pos hw]
  have hr := run_copy3 (P := P) w T e o.type i ht hi hsz g L cap cur hg ad m c cs hl hc h1 hm hfit
  unfold Oper.wp execOp
  simp only [ho, resolve, invoke, builtin, Sem.run_bind, Sem.run_pure, Result.andThen_ok, List.map_toArray, List.map_cons, List.map_nil, hd, hs, hr]
  exact h

theorem row_parts {w : World} {e : TypeId} {size g n cap : Nat} {xs : List Value} (h : w.ownsRow 0 e size (.slice (some ⟨g, 0, none⟩) n cap) n xs) :
    ∃ cur : Array Value, w.heap[g]? = some (.cells cur e (0, 0)) ∧ n ≤ cap ∧ cap ≤ maxLen ∧ cur.size = cap * size ∧ cur.toList.take (n * size) = xs := by
  rcases h.2 with ⟨hv, _⟩ | ⟨g', cap', cur, hv, _, hg, h1, h2, h3, h4⟩
  · simp at hv
  · simp at hv; obtain ⟨rfl, rfl⟩ := hv; exact ⟨cur, hg, h1, h2, h3, h4⟩
theorem flat_drop (l : List Fld) : ∀ k, (l.drop k).flatMap fc = (l.flatMap fc).drop (k * 3) := by
  induction l with
  | nil => intro k; simp
  | cons x r ih =>
    intro k
    cases k with
    | zero => simp
    | succ k =>
      have e : (x :: r).flatMap fc = .string x.name :: .string x.value :: .bool x.sens :: r.flatMap fc := rfl
      rw [e, show (k + 1) * 3 = k * 3 + 1 + 1 + 1 from by omega, List.drop_succ_cons, List.drop_succ_cons, List.drop_succ_cons, List.drop_succ_cons, ih]
/-- the cells behind the first k fields -/
theorem row_tail {w : World} {e : TypeId} {g n cap : Nat} {l : List Fld} (h : w.ownsRow 0 e 3 (.slice (some ⟨g, 0, none⟩) n cap) n (l.flatMap fc)) (k : Nat) :
    ∀ j u, ((l.drop k).flatMap fc)[j]? = some u → w.cell? ((⟨g, k * 3, none⟩ : Addr).add j) = some u := by
  intro j u hj
  rw [flat_drop, List.getElem?_drop] at hj
  have := h.cells (g := g) rfl _ _ hj
  rw [Addr.add_lit, Nat.zero_add] at this
  rw [Addr.add_lit]
  exact this
theorem fc_one (l : List Fld) : ∀ u ∈ l.flatMap fc, u.oneCell' = true := by
  intro u hu
  obtain ⟨f, _, hf⟩ := List.mem_flatMap.1 hu
  simp [fc] at hf
  rcases hf with rfl | rfl | rfl <;> rfl

def CopyRel (wr : World) (T : Tab) (g cap k : Nat) (wx : World) : Prop :=
  ∃ cur : Array Value, wx.heap[g]? = some (.cells cur 50 (0, 0)) ∧ cur.size = cap * 3 ∧ cur.toList.take ((T.ents.length - k) * 3) = (T.ents.drop k).flatMap fc ∧ Kept [g] wr wx
def ZRel (w : World) (T : Tab) (g cap k : Nat) (a : Value) (wx : World) : Prop :=
  ∃ j : Nat, a = .int .i64 j ∧ T.ents.length - k ≤ j ∧ j ≤ T.ents.length ∧ Kept [g] w wx ∧
    ∃ cur : Array Value, wx.heap[g]? = some (.cells cur 50 (0, 0)) ∧ cur.size = cap * 3 ∧ cur.toList.take ((T.ents.length - k) * 3) = (T.ents.drop k).flatMap fc
theorem zero_step {w : World} {T : Tab} {g cap k j : Nat} {cur : Array Value} (hg : w.heap[g]? = some (.cells cur 50 (0, 0))) (hs : cur.size = cap * 3) (ht : cur.toList.take ((T.ents.length - k) * 3) = (T.ents.drop k).flatMap fc) (hj : T.ents.length - k ≤ j) {x y z : Value} :
    ∃ cur : Array Value, (((w.setCell ⟨g, j * 3, none⟩ x).setCell ⟨g, j * 3 + 1, none⟩ y).setCell ⟨g, j * 3 + 2, none⟩ z).heap[g]? = some (.cells cur 50 (0, 0)) ∧ cur.size = cap * 3 ∧ cur.toList.take ((T.ents.length - k) * 3) = (T.ents.drop k).flatMap fc := by
  have h1 := heap_setCell_same w g (j * 3) _ _ x hg
  have h2 := heap_setCell_same _ g (j * 3 + 1) _ _ y h1
  have h3 := heap_setCell_same _ g (j * 3 + 2) _ _ z h2
  refine ⟨_, h3, by simpa using hs, ?_⟩
  rw [← ht]
  simp only [Array.toList_setIfInBounds]
  rw [List.take_set_of_le (by omega), List.take_set_of_le (by omega), List.take_set_of_le (by omega)]
theorem setRow_kept {S : List Nat} {w w1 : World} (h : Kept S w w1) {g : Nat} (hg : g ∈ S) (cs : Array Value) : Kept S w (w1.setRow g cs) :=
  h.step (S' := [g]) ⟨rfl, rfl, rfl, by simp, fun k _ hk => setRow_other w1 g k _ (by simpa using hk)⟩ (by intro b hb; left; simp at hb; rw [hb]; exact hg)
theorem copy_rel {wr w1 : World} {T : Tab} {g cap k : Nat} {cur : Array Value} (hk : Kept [] wr w1) (hg : w1.heap[g]? = some (.cells cur 50 (0, 0))) (hs : cur.size = cap * 3) (hl : T.ents.length ≤ cap) (cs : List Value) (m : Nat) (hm : cs.length = m * 3) (hcs : cs = (T.ents.drop k).flatMap fc) (hlen : ((T.ents.drop k).flatMap fc).length = (T.ents.length - k) * 3) :
    CopyRel wr T g cap k (w1.setRow g (cs ++ cur.toList.drop (m * 3)).toArray) := by
  rw [← hm]
  subst hcs
  refine ⟨_, setRow_heap w1 g cur _ 50 _ hg, ?_, ?_, setRow_kept (hk.mono (by simp)) (by simp) _⟩
  · simp only [List.size_toArray, List.length_append, List.length_drop, Array.length_toList, hs, hlen]; omega
  · rw [← hlen]; exact List.take_left

def MapsAt (T : Tab) (k : Nat) (al1 : List (ByteArray × Value)) (al2 : List ((ByteArray × ByteArray) × Value)) : Prop :=
  Uniq al1 ∧ Uniq al2 ∧ (∀ x, aget al1 x = idv (lastId (hasName x) (T.ents.drop k) (T.ev + k + 1))) ∧ (∀ x, aget al2 x = idv (lastId (hasPair x) (T.ents.drop k) (T.ev + k + 1)))
def EvRel (w : World) (T : Tab) (m1 m2 n : Nat) (a : Value) (wr : World) : Prop :=
  ∃ k : Nat, a = .int .i64 k ∧ k ≤ n ∧ Kept [m1, m2] w wr ∧ ∃ al1 al2, AMap kS wr m1 al1 ∧ AMap kP wr m2 al2 ∧ MapsAt T k al1 al2

def EvRet (w : World) (b : Nat) (T : Tab) (v : Value) (m1 m2 n : Nat) (rest : List Value) (ty : TypeId) (e : Ending) (w' : World) : Prop :=
  ∃ v', e = .returned (.tuple #[]) ∧ TabRep w' b ⟨T.ents.drop n, T.ev + n⟩ v' m1 m2 rest ty ∧ Kept (tset b v m1 m2) w w' ∧ v'.ownBlock = v.ownBlock

theorem ev_end {b : Nat} {T : Tab} {g cap : Nat} {m1 m2 k : Nat} {rest : List Value} {ty : TypeId} {w w0 w1 w2 w3 w4 : World} (h : TabRep w b T (.slice (some ⟨g, 0, none⟩) T.ents.length cap) m1 m2 rest ty) (hcap : T.ents.length ≤ cap) (hcm : cap ≤ maxLen)
    (kk : Kept [m1, m2] w w0) {al1 : List (ByteArray × Value)} {al2 : List ((ByteArray × ByteArray) × Value)} (A1 : AMap kS w0 m1 al1) (A2 : AMap kP w0 m2 al2) (LL : MapsAt T k al1 al2) (k2 : Kept [g] w0 w1) (k3 : Kept [g] w1 w2)
    {cur : Array Value} (hg : w2.heap[g]? = some (.cells cur 50 (0, 0))) (hs : cur.size = cap * 3) (ht : cur.toList.take ((T.ents.length - k) * 3) = (T.ents.drop k).flatMap fc)
    (k4 : Kept [b] w2 w3) (B5 : Blk w3 b (.bool false :: .slice (some ⟨g, 0, none⟩) (T.ents.length - k) cap :: .int .u64 T.ev :: .map (some m1) :: .map (some m2) :: rest) ty) (k5 : Kept [] w3 w4) (x : Int) (hx : x = T.ev + k) :
    EvRet w b T (.slice (some ⟨g, 0, none⟩) T.ents.length cap) m1 m2 k rest ty (.returned (.tuple #[])) (w4.setCell ⟨b, 2, none⟩ (.int .u64 x)) := by
  have b_m1 := h.b_m1
  have b_m2 := h.b_m2
  have v_m1 : g ≠ m1 := by have := h.v_m1; simpa [Value.ownBlock] using this
  have v_m2 : g ≠ m2 := by have := h.v_m2; simpa [Value.ownBlock] using this
  have v_b : g ≠ b := by have := h.vb; simpa [Value.ownBlock] using this
  have k25 : Kept [b] w2 (w4.setCell ⟨b, 2, none⟩ (.int .u64 x)) := (k4.step k5 (by simp)).setCell (by simp) _
  have k05 : Kept [g, b] w0 (w4.setCell ⟨b, 2, none⟩ (.int .u64 x)) := ((k2.trans k3).mono (by simp)).step k25 (by simp)
  refine ⟨.slice (some ⟨g, 0, none⟩) (T.ents.length - k) cap, rfl, ⟨?_, ?_, ⟨al1, al2, A1.kept k05 (by simp; exact ⟨fun e => v_m1 e.symm, fun e => b_m1 e.symm⟩), A2.kept k05 (by simp; exact ⟨fun e => v_m2 e.symm, fun e => b_m2 e.symm⟩), LL.1, LL.2.1, LL.2.2.1, LL.2.2.2⟩, h.ne, ?_⟩, ?_, rfl⟩
  · have := (B5.kept k5 (by simp)).set 2 (.int .u64 x)
    rw [hx] at this ⊢
    exact this
  · refine ⟨?_, .inr ⟨g, cap, cur, ?_, Nat.zero_le _, k25.heap hg (by simpa using v_b), ?_, hcm, hs, ?_⟩⟩
    · show ((T.ents.drop k).flatMap fc).length = (T.ents.drop k).length * 3
      exact flat_length _
    · show _ = Value.slice _ (T.ents.drop k).length cap
      rw [List.length_drop]
    · show (T.ents.drop k).length ≤ cap
      rw [List.length_drop]; omega
    · show List.take ((T.ents.drop k).length * 3) _ = _
      rw [List.length_drop]; exact ht
  · simpa [Value.ownBlock] using v_b
  · refine (kk.mono (by intro q hq; simp [tset, Value.ownBlock] at hq ⊢; omega)).step k05 (by intro q hq; left; simp [tset, Value.ownBlock] at hq ⊢; omega)
theorem zero66 (w : World) : (zeroValue 66).run Tryd.prog w = .ok (.int .u64 0) w := by kernel_rfl
theorem kept_box {w w1 : World} {l : List Value} {ty : TypeId} (h : w.alloc (.cells l.toArray ty) = w1) : Kept [] w w1 := (box_cells h).1

set_option maxRecDepth 100000 in
set_option maxHeartbeats 4000000 in
theorem evict_row (b : Nat) (T : Tab) (g cap : Nat) (m1 m2 n : Nat) (rest : List Value) (ty : TypeId) (w : World) (h : TabRep w b T (.slice (some ⟨g, 0, none⟩) T.ents.length cap) m1 m2 rest ty) (hT : T.ents.length + T.ev < 4294967296) (hn : n ≤ T.ents.length) :
    Calls Tryd.prog 57 #[.pointer (some ⟨b, 0, none⟩), .int .i64 n] w (EvRet w b T (.slice (some ⟨g, 0, none⟩) T.ents.length cap) m1 m2 n rest ty) := by
  have b_m1 := h.b_m1
  have b_m2 := h.b_m2
  have v_m1 : g ≠ m1 := by have := h.v_m1; simpa [Value.ownBlock] using this
  have v_m2 : g ≠ m2 := by have := h.v_m2; simpa [Value.ownBlock] using this
  have m1_m2 := h.ne
  have v_b : g ≠ b := by have := h.vb; simpa [Value.ownBlock] using this
  have c1 := h.blk.cell 1 rfl
  go_enter Tryd.func57, Tryd.ntmps57
  go_wp2_with (go_at_call 47; refine (len_any b _ _ 0 _ _ c1).mono ?_; rintro e w' ⟨rfl, rfl⟩)
  go_loopw [4] (EvRel w T m1 m2 n) (fun a _ => n - (intOf a).toNat)
  case atStart =>
    obtain ⟨al1, al2, A1, A2, U1, U2, L1, L2⟩ := h.maps
    exact ⟨0, rfl, by omega, Kept.refl _ _, al1, al2, A1, A2, U1, U2, L1, L2⟩
  case round =>
    obtain ⟨k, rfl, hk, kk, al1, al2, A1, A2, LL⟩ := hrel
    have B1 := h.blk.kept kk (by simp; exact ⟨b_m1, b_m2⟩)
    have c1 := B1.cell 1 rfl
    have c2 := B1.cell 2 rfl
    by_cases hlt : k < n
    · obtain ⟨f, hf⟩ : ∃ f, T.ents[k]? = some f := ⟨_, List.getElem?_eq_getElem (by omega)⟩
      have hrow := ownsRow_kept h.row kk (by intro g' hg e; simp [Value.ownBlock] at hg e; omega)
      obtain ⟨d0, d1, d2⟩ := fld_cells hrow k f hf
      have hdrop : T.ents.drop k = f :: T.ents.drop (k + 1) := by
        have hk' : k < T.ents.length := by omega
        rw [List.drop_eq_getElem_cons hk']
        rw [List.getElem?_eq_getElem hk'] at hf
        rw [Option.some.inj hf]
      unfold MapsAt at LL
      rw [hdrop] at LL
      have LL := Lib.hid LL
      have HF := Lib.hid hf; clear hf
      have HD := Lib.hid hdrop; clear hdrop
      have blt := B1.lt
      go_wp2_with fail
      generalize hw1 : wr.alloc _ = w1
      obtain ⟨k1, X1, hx1⟩ := box_cells (l := fc f) hw1
      have hxb : wr.heap.size ≠ m1 ∧ wr.heap.size ≠ m2 := ⟨by have := A1.lt; omega, by have := A2.lt; omega⟩
      have hk2 : w.heap.size ≤ wr.heap.size := kk.size
      generalize hxe : wr.heap.size = xb at hxb X1 hx1 hk2 ⊢
      obtain ⟨xb_m1, xb_m2⟩ := hxb
      have kk1 := kk.trans (k1.mono (by simp))
      have B2 := B1.kept k1 (by simp)
      have A1 := A1.kept k1 (by simp)
      have A2 := A2.kept k1 (by simp)
      clear hw1 c1 c2 d0 d1 d2 blt
      obtain ⟨U1, U2, L1, L2⟩ := LL.out
      have D1 := Lib.hid (del_name U1 (by omega) L1)
      have D2 := Lib.hid (del_pair U2 (by omega) L2)
      have c3 := B2.cell 3 rfl
      have x0 := X1.cell 0 rfl
      obtain ⟨I1, hI1⟩ : ∃ I1, lastId (hasName f.name) (f :: T.ents.drop (k + 1)) (T.ev + k + 1) = I1 := ⟨_, rfl⟩
      obtain ⟨I2, hI2⟩ : ∃ I2, lastId (hasPair (f.name, f.value)) (f :: T.ents.drop (k + 1)) (T.ev + k + 1) = I2 := ⟨_, rfl⟩
      have q1 : ∀ j, (Instr.lookup 67 (.map (some m1)) (.string f.name) false).run Tryd.prog (w1.drewN j) = .ok (.int .u64 I1) (w1.drewN j) := by
        intro j
        have := run_lookup_a (P := Tryd.prog) (w := w1.drewN j) (keyS Tryd.underlying9) Tryd.underlying67 (.int .u64 0) (zero66 _) A1 f.name
        rw [L1, idv_getD, hI1] at this
        exact this
      have HI1 := Lib.hid hI1; clear hI1
      have HI2 := Lib.hid hI2; clear hI2
      clear U1 U2 L1 L2
      have e1 : I1 = T.ev + k + 1 ∨ I1 ≠ T.ev + k + 1 := by omega
      rcases e1 with e1 | e1
      · have e1b : ((I1 : Int) == (T.ev + k + 1 : Int)) = true := by simp; omega
        have E1 := Lib.hid e1; clear e1
        go_quiet (fail)
        go_wp2_with fail
        clear q1 e1b
        have bltt := B2.lt
        go_region_held3 (fun w' => w'.cell? ⟨b, 3, none⟩ = some (.map (some m1)) ∧ w'.cell? ⟨xb, 0, none⟩ = some (.string f.name)) (first | exact ⟨B5.cell 3 rfl, Y5.cell 0 rfl⟩ | go_keep) ((refine step_del (keyS Tryd.underlying9) Tryd.underlying67 (by rfl) _ _ (by rfl) m1 f.name (by rfl) (by rfl) (al := al1) A1 ?_; intro w2 A1' k12'; have k12 : Kept [m1] w1 w2 := (by first | exact ((Kept.refl [m1] w1).drewN _).trans k12' | exact (((Kept.refl [m1] w1).drewN _).drew).trans k12'); have B5 := B2.kept k12 (by simp; exact b_m1); have Y5 := X1.kept k12 (by simp; exact xb_m1)))
        obtain ⟨al1', hal⟩ : ∃ al1', al1' = adel al1 f.name := ⟨_, rfl⟩
        rw [← hal] at A1'
        have P1 : Uniq al1' ∧ ∀ x, aget al1' x = idv (lastId (hasName x) (T.ents.drop (k + 1)) (T.ev + k + 1 + 1)) := by
          rw [hal]; exact ⟨uniq_adel _ _ LL.out.1, D1.out.1 (HI1.out.trans E1.out)⟩
        have P1 := Lib.hid P1
        have HAL := Lib.hid hal; clear hal
        clear c3 x0
        have B3 := B2.kept k12 (by simp; exact b_m1)
        have X3 := X1.kept k12 (by simp; exact xb_m1)
        have A2' := A2.kept k12 (by simp; exact m1_m2.symm)
        have x0' := X3.cell 0 rfl
        have x1' := X3.cell 1 rfl
        have xlt := X3.lt
        go_wp2_with fail
        generalize hw3 : w2.alloc _ = w3
        obtain ⟨k23, Y1, hy1⟩ := box_cells (l := [.string f.name, .string f.value]) hw3
        have yb_m2 : w2.heap.size ≠ m2 := by have := A2'.lt; omega
        generalize hye : w2.heap.size = yb at Y1 hy1 yb_m2 ⊢
        have B4 := B3.kept k23 (by simp)
        have A1'' := A1'.kept k23 (by simp)
        have A2'' := A2'.kept k23 (by simp)
        clear hw3 hye x0' x1' xlt
        have c4 := B4.cell 4 rfl
        have y0 := Y1.cell 0 rfl
        have y1 := Y1.cell 1 rfl
        have q2 : ∀ j, (Instr.lookup 68 (.map (some m2)) (.agg #[.string f.name, .string f.value]) false).run Tryd.prog (w3.drewN j) = .ok (.int .u64 I2) (w3.drewN j) := by
          intro j
          have := run_lookup_a (P := Tryd.prog) (w := w3.drewN j) keyP Tryd.underlying68 (.int .u64 0) (zero66 _) A2'' (f.name, f.value)
          rw [LL.out.2.2.2, idv_getD, HI2.out] at this
          exact this
        have e2 : I2 = T.ev + k + 1 ∨ I2 ≠ T.ev + k + 1 := by omega
        rcases e2 with e2 | e2
        · have e2b : ((I2 : Int) == (T.ev + k + 1 : Int)) = true := by simp; omega
          have E2 := Lib.hid e2; clear e2
          go_quiet (fail)
          go_wp2_with fail
          clear q2 e2b
          have bltt := B4.lt
          go_region_held3 (fun w' => w'.cell? ⟨b, 4, none⟩ = some (.map (some m2)) ∧ w'.cell? ⟨yb, 0, none⟩ = some (.string f.name) ∧ w'.cell? ⟨yb, 1, none⟩ = some (.string f.value)) (first | exact ⟨B5.cell 4 rfl, Y5.cell 0 rfl, Y5.cell 1 rfl⟩ | go_keep) ((refine step_del keyP Tryd.underlying68 (by rfl) _ _ (by rfl) m2 (f.name, f.value) (by rfl) (by rfl) (al := al2) A2'' ?_; intro w4 A2d k34'; have k34 : Kept [m2] w3 w4 := (by first | exact ((Kept.refl [m2] w3).drewN _).trans k34' | exact (((Kept.refl [m2] w3).drewN _).drew).trans k34'); have B5 := B4.kept k34 (by simp; exact b_m2); have Y5 := Y1.kept k34 (by simp; exact yb_m2)))
          go_wp2_with fail
          have k14 : Kept [m1, m2] w1 w4 := ((k12.mono (by simp)).step k23 (by simp)).step k34 (by simp)
          exact ⟨⟨k + 1, by go_num, by omega, kk1.trans k14, al1', adel al2 (f.name, f.value), A1''.kept k34 (by simp; exact m1_m2), A2d, P1.out.1, uniq_adel _ _ LL.out.2.1, P1.out.2, D2.out.1 (HI2.out.trans E2.out)⟩, by simp [intOf]; omega⟩
        · have e2b : ((I2 : Int) == (T.ev + k + 1 : Int)) = false := by simp; omega
          have E2 := Lib.hid e2; clear e2
          go_quiet (fail)
          go_wp2_with fail
          have k14 : Kept [m1, m2] w1 w3 := (k12.mono (by simp)).step k23 (by simp)
          exact ⟨⟨k + 1, by go_num, by omega, (kk1.trans k14).drewN _, al1', al2, A1'', A2'', P1.out.1, LL.out.2.1, P1.out.2, D2.out.2 (fun e => E2.out (HI2.out.symm.trans e))⟩, by simp [intOf]; omega⟩
      · have e1b : ((I1 : Int) == (T.ev + k + 1 : Int)) = false := by simp; omega
        have E1 := Lib.hid e1; clear e1
        have x1 := X1.cell 1 rfl
        go_quiet (fail)
        go_upto_region 9 with (fail)
        clear q1 e1b x1
        obtain ⟨w2, hw2⟩ : ∃ w2, w1.drewN nq = w2 := ⟨_, rfl⟩
        rw [hw2]
        have k12 : Kept [m1] w1 w2 := by rw [← hw2]; exact (Kept.refl _ _).drewN _
        have A1' : AMap kS w2 m1 al1 := A1.kept (by rw [← hw2]; exact (Kept.refl [] _).drewN _) (by simp)
        clear hw2
        obtain ⟨al1', hal⟩ : ∃ al1', al1' = al1 := ⟨_, rfl⟩
        rw [← hal] at A1'
        have P1 : Uniq al1' ∧ ∀ x, aget al1' x = idv (lastId (hasName x) (T.ents.drop (k + 1)) (T.ev + k + 1 + 1)) := by
          rw [hal]; exact ⟨LL.out.1, D1.out.2 (fun e => E1.out (HI1.out.symm.trans e))⟩
        have P1 := Lib.hid P1
        have HAL := Lib.hid hal; clear hal
        clear c3 x0
        have B3 := B2.kept k12 (by simp; exact b_m1)
        have X3 := X1.kept k12 (by simp; exact xb_m1)
        have A2' := A2.kept k12 (by simp; exact m1_m2.symm)
        have x0' := X3.cell 0 rfl
        have x1' := X3.cell 1 rfl
        have xlt := X3.lt
        go_wp2_with fail
        generalize hw3 : w2.alloc _ = w3
        obtain ⟨k23, Y1, hy1⟩ := box_cells (l := [.string f.name, .string f.value]) hw3
        have yb_m2 : w2.heap.size ≠ m2 := by have := A2'.lt; omega
        generalize hye : w2.heap.size = yb at Y1 hy1 yb_m2 ⊢
        have B4 := B3.kept k23 (by simp)
        have A1'' := A1'.kept k23 (by simp)
        have A2'' := A2'.kept k23 (by simp)
        clear hw3 hye x0' x1' xlt
        have c4 := B4.cell 4 rfl
        have y0 := Y1.cell 0 rfl
        have y1 := Y1.cell 1 rfl
        have q2 : ∀ j, (Instr.lookup 68 (.map (some m2)) (.agg #[.string f.name, .string f.value]) false).run Tryd.prog (w3.drewN j) = .ok (.int .u64 I2) (w3.drewN j) := by
          intro j
          have := run_lookup_a (P := Tryd.prog) (w := w3.drewN j) keyP Tryd.underlying68 (.int .u64 0) (zero66 _) A2'' (f.name, f.value)
          rw [LL.out.2.2.2, idv_getD, HI2.out] at this
          exact this
        have e2 : I2 = T.ev + k + 1 ∨ I2 ≠ T.ev + k + 1 := by omega
        rcases e2 with e2 | e2
        · have e2b : ((I2 : Int) == (T.ev + k + 1 : Int)) = true := by simp; omega
          have E2 := Lib.hid e2; clear e2
          go_quiet (fail)
          go_wp2_with fail
          clear q2 e2b
          have bltt := B4.lt
          go_region_held3 (fun w' => w'.cell? ⟨b, 4, none⟩ = some (.map (some m2)) ∧ w'.cell? ⟨yb, 0, none⟩ = some (.string f.name) ∧ w'.cell? ⟨yb, 1, none⟩ = some (.string f.value)) (first | exact ⟨B5.cell 4 rfl, Y5.cell 0 rfl, Y5.cell 1 rfl⟩ | go_keep) ((refine step_del keyP Tryd.underlying68 (by rfl) _ _ (by rfl) m2 (f.name, f.value) (by rfl) (by rfl) (al := al2) A2'' ?_; intro w4 A2d k34'; have k34 : Kept [m2] w3 w4 := (by first | exact ((Kept.refl [m2] w3).drewN _).trans k34' | exact (((Kept.refl [m2] w3).drewN _).drew).trans k34'); have B5 := B4.kept k34 (by simp; exact b_m2); have Y5 := Y1.kept k34 (by simp; exact yb_m2)))
          go_wp2_with fail
          have k14 : Kept [m1, m2] w1 w4 := ((k12.mono (by simp)).step k23 (by simp)).step k34 (by simp)
          exact ⟨⟨k + 1, by go_num, by omega, kk1.trans k14, al1', adel al2 (f.name, f.value), A1''.kept k34 (by simp; exact m1_m2), A2d, P1.out.1, uniq_adel _ _ LL.out.2.1, P1.out.2, D2.out.1 (HI2.out.trans E2.out)⟩, by simp [intOf]; omega⟩
        · have e2b : ((I2 : Int) == (T.ev + k + 1 : Int)) = false := by simp; omega
          have E2 := Lib.hid e2; clear e2
          go_quiet (fail)
          go_wp2_with fail
          have k14 : Kept [m1, m2] w1 w3 := (k12.mono (by simp)).step k23 (by simp)
          exact ⟨⟨k + 1, by go_num, by omega, (kk1.trans k14).drewN _, al1', al2, A1'', A2'', P1.out.1, LL.out.2.1, P1.out.2, D2.out.2 (fun e => E2.out (HI2.out.symm.trans e))⟩, by simp [intOf]; omega⟩
    · have hkn : k = n := by omega
      subst hkn
      have hrow := ownsRow_kept h.row kk (by intro g' hg e; simp [Value.ownBlock] at hg e; omega)
      obtain ⟨cur, hcur, hcap, hcm, hcs, htake⟩ := row_parts hrow
      have hsrc := row_tail hrow k
      have LL := Lib.hid LL
      have HC := Lib.hid hcs; clear hcs
      have HTK := Lib.hid htake; clear htake
      have HCM := Lib.hid hcm; clear hcm
      have HCU := Lib.hid hcur; clear hcur
      have HS := Lib.hid hsrc; clear hsrc
      have hTl : T.ents.length < 4294967296 := by omega
      have HT := Lib.hid hT; clear hT
      have hlen : ((T.ents.drop k).flatMap fc).length = (T.ents.length - k) * 3 := by rw [flat_length, List.length_drop]
      have HLN := Lib.hid hlen; clear hlen
      clear c2
      obtain ⟨i0, hi0, hz0, hz1, hz2⟩ := info_parts info50
      go_upto_region 12 with (fail)
      go_cut [0] (fun s0 wx => s0 = .pointer (some ⟨b, 0, none⟩) ∧ CopyRel wr T g cap k wx)
      case first =>
        by_cases hck : cap = k
        · subst hck
          have e0 : T.ents.length - cap = 0 := by omega
          have hle : cap ≤ T.ents.length := by omega
          have E0 := Lib.hid e0; clear e0
          go_region_law ((refine step_copy3 46 50 i0 Tryd.underlying46 hi0 hz1 (by rfl) _ _ (by rfl) g T.ents.length cap cur (by rfl) HCU.out ⟨g, 0, none⟩ 0 0 (by rfl) [] rfl (fun j u hj => by cases hj) (by intro u hu; cases hu) (by omega) (by simp) ?_))
          all_goals
            go_wp2_with fail
            go_meet
            case rel => exact ⟨rfl, by simpa using copy_rel ((Kept.refl _ _).drew) HCU.out HC.out hcap [] 0 rfl (by rw [List.drop_of_length_le hcap]; rfl) HLN.out⟩
        · go_region_law ((refine step_copy3 46 50 i0 Tryd.underlying46 hi0 hz1 (by rfl) _ _ (by rfl) g T.ents.length cap cur (by rfl) HCU.out ⟨g, k * 3, none⟩ (T.ents.length - k) (cap - k) (by rfl) ((T.ents.drop k).flatMap fc) HLN.out HS.out (fc_one _) (by omega) (by rw [HLN.out, HC.out]; omega) ?_))
          all_goals
            go_wp2_with fail
            go_meet
            case rel => exact ⟨rfl, copy_rel ((Kept.refl _ _).drew) HCU.out HC.out hcap _ _ HLN.out rfl HLN.out⟩
      case rest =>
        obtain ⟨rfl, cur2, hg2, hs2, ht2, k2⟩ := hcut
        have B3 := B1.kept k2 (by simp; exact fun e => v_b e.symm)
        have c1 := B3.cell 1 rfl
        have HG2 := Lib.hid hg2; clear hg2
        have HS2 := Lib.hid hs2; clear hs2
        have HT2 := Lib.hid ht2; clear ht2
        go_wp2_with (go_at_call 47; refine (len_any b _ _ 0 _ _ c1).mono ?_; rintro e w' ⟨rfl, rfl⟩)
        go_loopw [8] (ZRel wc T g cap k) (fun a _ => T.ents.length - (intOf a).toNat)
        case atStart => exact ⟨T.ents.length - k, by go_num, by omega, by omega, Kept.refl _ _, cur2, HG2.out, HS2.out, HT2.out⟩
        case round =>
          obtain ⟨j, rfl, hj1, hj2, k3, cur3, hg3, hs3, ht3⟩ := hrel
          have B4 := B3.kept k3 (by simp; exact fun e => v_b e.symm)
          have c1 := B4.cell 1 rfl
          by_cases hlt2 : j < T.ents.length
          · have hz0 : ∃ z, wr.cell? ⟨g, j * 3, none⟩ = some z := ⟨_, by rw [cell_of_row _ _ _ _ _ _ hg3]; exact Array.getElem?_eq_getElem (by omega)⟩
            have hz1 : ∃ z, wr.cell? ⟨g, j * 3 + 1, none⟩ = some z := ⟨_, by rw [cell_of_row _ _ _ _ _ _ hg3]; exact Array.getElem?_eq_getElem (by omega)⟩
            have hz2 : ∃ z, wr.cell? ⟨g, j * 3 + 2, none⟩ = some z := ⟨_, by rw [cell_of_row _ _ _ _ _ _ hg3]; exact Array.getElem?_eq_getElem (by omega)⟩
            obtain ⟨z0, hz0⟩ := hz0
            obtain ⟨z1, hz1⟩ := hz1
            obtain ⟨z2, hz2⟩ := hz2
            have f0 := frozen_of_row wr g (j * 3) _ _ hg3
            have f1 := frozen_of_row wr g (j * 3 + 1) _ _ hg3
            have f2 := frozen_of_row wr g (j * 3 + 2) _ _ hg3
            have HG3 := Lib.hid hg3; clear hg3
            have HS3 := Lib.hid hs3; clear hs3
            have HT3 := Lib.hid ht3; clear ht3
            go_wp2_with (go_at_call 47; refine (len_any b _ _ 0 _ _ c1).mono ?_; rintro e w' ⟨rfl, rfl⟩)
            refine ⟨⟨j + 1, by go_num, by omega, by omega, ?_, ?_⟩, by simp [intOf]; omega⟩
            · exact ((k3.setCell (by simp) _).setCell (by simp) _).setCell (by simp) _
            · exact zero_step HG3.out HS3.out HT3.out hj1
          · have HG3 := Lib.hid hg3; clear hg3
            have HS3 := Lib.hid hs3; clear hs3
            have HT3 := Lib.hid ht3; clear ht3
            go_wp2_with (go_at_call 47; refine (len_any b _ _ 0 _ _ c1).mono ?_; rintro e w' ⟨rfl, rfl⟩)
            go_cut [0] (fun s0 wx => s0 = .pointer (some ⟨b, 0, none⟩) ∧ Kept [b] wr wx ∧ Blk wx b (.bool false :: .slice (some ⟨g, 0, none⟩) (T.ents.length - k) cap :: .int .u64 T.ev :: .map (some m1) :: .map (some m2) :: rest) ty)
            case first =>
              have f1 := B4.frozen 1
              have s1 : IntKind.i64.wrap ((T.ents.length : Int) - k) = (T.ents.length : Int) - k := IntWalk.i64_in _ (by omega)
              have s2 : (0 : Int) ≤ (T.ents.length : Int) - k := by omega
              have s3 : ((T.ents.length : Int) - k).toNat = T.ents.length - k := by omega
              have s4 : ((T.ents.length : Int) - k) ≤ (cap : Int) := by omega
              go_region_with ((go_at_call 47; refine (len_any b _ _ 0 _ _ (by exact c1)).mono ?_; rintro e w' ⟨rfl, rfl⟩))
              all_goals
                go_wp2_with fail
                go_meet
                case rel => exact ⟨rfl, ((Kept.refl _ _).drew).setCell (by simp) _, B4.drew.set 1 _⟩
            case rest =>
              obtain ⟨rfl, k4, B5⟩ := hcut
              have c2 := B5.cell 2 rfl
              have hEv : T.ev < 4294967296 := by have := HT.out; omega
              have f2 := B5.frozen 2
              go_wp2_with fail
              go_quiet (fail)
              go_wp2_with fail
              go_end0
              exact ev_end h hcap HCM.out kk A1 A2 LL.out k2 k3 HG3.out HS3.out HT3.out k4 B5 ((Kept.refl _ _).drewN _) _ rfl
def NilRel (w : World) (a : Value) (wr : World) : Prop := a = .int .i64 0 ∧ Kept [] w wr
theorem run_copy_nil (ty : TypeId) (w : World) : (Builtin.copy_ #[46, 46] ty #[.slice none 0 0, .slice none 0 0]).run Tryd.prog w = .ok (goInt 0) w := by kernel_rfl
theorem step_copy_nil {ops : Array Oper} {o : Oper} {a : Act} {w : World} {KK : Act → World → Prop} {Q : Exit → Act → World → Prop} {E : Prop}
    (hgd : o.guard = none) (d s : Operand) (ho : o.op = .call { callee := .builtin .copy, args := #[d, s], argTypes := #[46, 46] })
    (hd : a.eval d = .slice none 0 0) (hs : a.eval s = .slice none 0 0) (h : KK (a.put o.dst (goInt 0)) w) :
    if Region.wanted o (yielded ops a.tmps) = true then Oper.wp Tryd.prog o a w KK Q else E := by
  have hw : Region.wanted o (yielded ops a.tmps) = true := by simp [Region.wanted, hgd]
  rw [if_pos hw]
  have hr := run_copy_nil o.type w
  unfold Oper.wp execOp
  simp only [ho, resolve, invoke, builtin, Sem.run_bind, Sem.run_pure, Result.andThen_ok, List.map_toArray, List.map_cons, List.map_nil, hd, hs, hr]
  exact h
set_option maxRecDepth 100000 in
set_option maxHeartbeats 4000000 in
theorem evict_nil (b : Nat) (T : Tab) (m1 m2 : Nat) (rest : List Value) (ty : TypeId) (w : World) (h : TabRep w b T (.slice none 0 0) m1 m2 rest ty) (hT : T.ev < 4294967296) (hl : T.ents = []) :
    Calls Tryd.prog 57 #[.pointer (some ⟨b, 0, none⟩), .int .i64 (0 : Nat)] w (EvRet w b T (.slice none 0 0) m1 m2 0 rest ty) := by
  have c1 := h.blk.cell 1 rfl
  go_enter Tryd.func57, Tryd.ntmps57
  go_wp2_with (go_at_call 47; refine (len_any b _ _ 0 _ _ c1).mono ?_; rintro e w' ⟨rfl, rfl⟩)
  go_loopw [4] (NilRel w) (fun a _ => 0)
  case atStart => exact ⟨rfl, Kept.refl _ _⟩
  case round =>
    obtain ⟨rfl, kk⟩ := hrel
    have B1 := h.blk.kept kk (by simp)
    have c1 := B1.cell 1 rfl
    go_upto_region 12 with (fail)
    go_cut [0] (fun s0 wx => s0 = .pointer (some ⟨b, 0, none⟩) ∧ Kept [] wr wx)
    case first =>
      go_region_law ((refine step_copy_nil (by rfl) _ _ (by rfl) (by rfl) (by rfl) ?_))
      all_goals
        go_wp2_with fail
        go_meet
        case rel => exact ⟨rfl, (Kept.refl _ _).drew⟩
    case rest =>
      obtain ⟨rfl, k2⟩ := hcut
      have B2 := B1.kept k2 (by simp)
      have c1 := B2.cell 1 rfl
      go_wp2_with (go_at_call 47; refine (len_any b _ _ 0 _ _ c1).mono ?_; rintro e w' ⟨rfl, rfl⟩)
      go_loopw [8] (NilRel wc) (fun a _ => 0)
      case atStart => exact ⟨rfl, Kept.refl _ _⟩
      case round =>
        obtain ⟨rfl, k3⟩ := hrel
        have B3 := B2.kept k3 (by simp)
        have c1 := B3.cell 1 rfl
        go_wp2_with (go_at_call 47; refine (len_any b _ _ 0 _ _ c1).mono ?_; rintro e w' ⟨rfl, rfl⟩)
        go_cut [0] (fun s0 wx => s0 = .pointer (some ⟨b, 0, none⟩) ∧ Kept [b] wr wx ∧ Blk wx b (.bool false :: .slice none 0 0 :: .int .u64 T.ev :: .map (some m1) :: .map (some m2) :: rest) ty)
        case first =>
          have f1 := B3.frozen 1
          go_region_with ((go_at_call 47; refine (len_any b _ _ 0 _ _ (by exact c1)).mono ?_; rintro e w' ⟨rfl, rfl⟩))
          all_goals
            go_wp2_with fail
            go_meet
            case rel => exact ⟨rfl, ((Kept.refl _ _).drew).setCell (by simp) _, B3.drew.set 1 _⟩
        case rest =>
          obtain ⟨rfl, k4, B5⟩ := hcut
          have c2 := B5.cell 2 rfl
          have f2 := B5.frozen 2
          go_wp2_with fail
          go_quiet (fail)
          go_wp2_with fail
          go_end0
          have b_m1 := h.b_m1
          have b_m2 := h.b_m2
          have kz : ∀ n x, Kept [b] w ((wc.drewN n).setCell ⟨b, 2, none⟩ x) := fun n x => (((((kk.mono (by simp)).step k2 (by simp)).step k3 (by simp)).step k4 (by simp)).drewN _).setCell (by simp) _
          obtain ⟨al1, al2, A1, A2, U1, U2, L1, L2⟩ := h.maps
          refine ⟨.slice none 0 0, rfl, ⟨?_, ownsRow_kept (by simpa [hl] using h.row) (kz _ _) (by simp [Value.ownBlock]), ⟨al1, al2, A1.kept (kz _ _) (by simpa using fun e => b_m1 e.symm), A2.kept (kz _ _) (by simpa using fun e => b_m2 e.symm), U1, U2, ?_, ?_⟩, h.ne, by simp [Value.ownBlock]⟩, (kz _ _).mono (by simp [tset]), rfl⟩
          · exact (B5.kept ((Kept.refl [] _).drewN _) (by simp)).set 2 (.int .u64 T.ev)
          · simpa [hl] using L1
          · simpa [hl] using L2
theorem evict_any (b : Nat) (T : Tab) (v : Value) (m1 m2 n : Nat) (rest : List Value) (ty : TypeId) (w : World) (h : TabRep w b T v m1 m2 rest ty) (hT : T.ents.length + T.ev < 4294967296) (hn : n ≤ T.ents.length) :
    Calls Tryd.prog 57 #[.pointer (some ⟨b, 0, none⟩), .int .i64 n] w (EvRet w b T v m1 m2 n rest ty) := by
  rcases h.row.2 with ⟨hv, h0⟩ | ⟨g', cap', cur, hv, _⟩
  · subst hv
    have : n = 0 := by omega
    subst this
    exact evict_nil b T m1 m2 rest ty w h (by omega) (List.length_eq_zero_iff.1 h0)
  · subst hv
    exact evict_row b T g' cap' m1 m2 n rest ty w h hT hn
end Go.Proofs.YtoceghdnipjkfaaDoor
