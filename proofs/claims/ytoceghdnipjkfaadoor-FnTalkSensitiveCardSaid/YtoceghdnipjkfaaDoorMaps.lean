/-
  Maps as association lists: what a look-up, a store and a delete do to the entries, for keys that are strings, pairs of strings ([2]string, struct of two strings).
-/
import Derived.Test.YtoceghdnipjkfaaDoorBase
import Derived.MapKept
import Derived.ChangeKeysEq
namespace Go.Proofs.YtoceghdnipjkfaaDoor
open Go.RowKit Go.MapKept

section
variable {K : Type} [DecidableEq K]
/-- the place and the value of a key -/
def fnd (k : K) : List (K × Value) → Nat → Option (Nat × Value)
  | [], _ => none
  | p :: r, i => if k = p.1 then some (i, p.2) else fnd k r (i + 1)
def aget (al : List (K × Value)) (k : K) : Option Value := (fnd k al 0).map (·.2)
def aput (al : List (K × Value)) (k : K) (v : Value) : List (K × Value) :=
  match al with
  | [] => [(k, v)]
  | p :: r => if k = p.1 then (k, v) :: r else p :: aput r k v
def adel (al : List (K × Value)) (k : K) : List (K × Value) :=
  match al with
  | [] => []
  | p :: r => if k = p.1 then r else p :: adel r k
def Uniq (al : List (K × Value)) : Prop := (al.map (·.1)).Nodup

theorem fnd_shift (k : K) : ∀ (al : List (K × Value)) (i j : Nat), fnd k al (i + j) = (fnd k al i).map fun x => (x.1 + j, x.2)
  | [], _, _ => rfl
  | p :: r, i, j => by
    simp only [fnd]
    split
    · rfl
    · rw [show i + j + 1 = (i + 1) + j from by omega]; exact fnd_shift k r (i + 1) j
theorem fnd_val (k : K) (al : List (K × Value)) (i j : Nat) : (fnd k al i).map (·.2) = (fnd k al j).map (·.2) := by
  rw [show i = 0 + i from by omega, show j = 0 + j from by omega, fnd_shift, fnd_shift]
  cases fnd k al 0 <;> rfl
theorem aget_nil (k : K) : aget ([] : List (K × Value)) k = none := rfl
theorem aget_cons (p : K × Value) (r : List (K × Value)) (k : K) : aget (p :: r) k = if k = p.1 then some p.2 else aget r k := by
  unfold aget
  simp only [fnd]
  split
  · rfl
  · exact fnd_val k r _ _
theorem aget_aput (k k' : K) (v : Value) : ∀ (al : List (K × Value)), aget (aput al k v) k' = if k' = k then some v else aget al k'
  | [] => by simp only [aput, aget_cons, aget_nil]
  | p :: r => by
    simp only [aput]
    split
    · rename_i h
      simp only [aget_cons]
      split
      · rfl
      · rename_i h2; rw [if_neg (fun e => h2 (e.trans h.symm))]
    · rename_i h
      simp only [aget_cons, aget_aput k k' v r]
      split
      · rename_i h1; rw [if_neg (fun e => h (e.symm.trans h1))]
      · rfl
theorem mem_aput (k : K) (v : Value) : ∀ (al : List (K × Value)) (x : K), x ∈ (aput al k v).map (·.1) ↔ x = k ∨ x ∈ al.map (·.1)
  | [], x => by simp [aput]
  | p :: r, x => by
    simp only [aput]
    split
    · rename_i h
      simp only [List.map_cons, List.mem_cons, ← h]
      constructor
      · rintro (a | b)
        · exact .inl a
        · exact .inr (.inr b)
      · rintro (a | a | b)
        · exact .inl a
        · exact .inl a
        · exact .inr b
    · simp only [List.map_cons, List.mem_cons, mem_aput k v r x]
      constructor
      · rintro (a | a | b)
        · exact .inr (.inl a)
        · exact .inl a
        · exact .inr (.inr b)
      · rintro (a | a | b)
        · exact .inr (.inl a)
        · exact .inl a
        · exact .inr (.inr b)
theorem uniq_aput (k : K) (v : Value) : ∀ (al : List (K × Value)), Uniq al → Uniq (aput al k v)
  | [], _ => by simp [aput, Uniq]
  | p :: r, h => by
    unfold Uniq at h ⊢
    simp only [List.map_cons, List.nodup_cons] at h
    simp only [aput]
    split
    · rename_i hk
      simp only [List.map_cons, List.nodup_cons, hk]
      exact h
    · rename_i hk
      simp only [List.map_cons, List.nodup_cons]
      refine ⟨fun hm => ?_, uniq_aput k v r h.2⟩
      rcases (mem_aput k v r p.1).1 hm with e | e
      · exact hk e.symm
      · exact h.1 e
theorem aget_none (k : K) : ∀ (al : List (K × Value)), k ∉ al.map (·.1) → aget al k = none
  | [], _ => rfl
  | p :: r, h => by
    simp only [List.map_cons, List.mem_cons, not_or] at h
    rw [aget_cons, if_neg h.1, aget_none k r h.2]
theorem aget_adel (k k' : K) : ∀ (al : List (K × Value)), Uniq al → aget (adel al k) k' = if k' = k then none else aget al k'
  | [], _ => by simp [adel, aget_nil]
  | p :: r, h => by
    unfold Uniq at h
    simp only [List.map_cons, List.nodup_cons] at h
    simp only [adel]
    split
    · rename_i hk
      split
      · rename_i hk'; exact aget_none _ _ (by rw [hk', hk]; exact h.1)
      · rename_i hk'; rw [aget_cons, if_neg (fun e => hk' (e.trans hk.symm))]
    · rename_i hk
      rw [aget_cons, aget_cons, aget_adel k k' r h.2]
      split
      · rename_i h1; rw [if_neg (fun e => hk (e.symm.trans h1))]
      · rfl
theorem adel_sub (k : K) : ∀ (al : List (K × Value)) (x : K × Value), x ∈ adel al k → x ∈ al
  | [], _, h => h
  | p :: r, x, h => by
    simp only [adel] at h
    split at h
    · exact List.mem_cons_of_mem _ h
    · rcases List.mem_cons.1 h with e | e
      · exact e ▸ List.mem_cons_self
      · exact List.mem_cons_of_mem _ (adel_sub k r x e)
theorem uniq_adel (k : K) : ∀ (al : List (K × Value)), Uniq al → Uniq (adel al k)
  | [], h => h
  | p :: r, h => by
    unfold Uniq at h ⊢
    simp only [List.map_cons, List.nodup_cons] at h
    simp only [adel]
    split
    · exact h.2
    · simp only [List.map_cons, List.nodup_cons]
      refine ⟨fun hm => ?_, uniq_adel k r h.2⟩
      obtain ⟨x, hx, e⟩ := List.mem_map.1 hm
      exact h.1 (List.mem_map.2 ⟨x, adel_sub k r x hx, e⟩)
end

/-- what is asked of a key's type -/
structure KeyT (P : Program) (kt : TypeId) {K : Type} [DecidableEq K] (kv : K → Value) : Prop where
  check : ∀ (em : Bool) (k : K) (w : World), (Instr.checkKey em 10000 kt (kv k)).run P w = .ok () w
  find : ∀ (k : K) (al : List (K × Value)) (es : List MapEntry) (w : World), es.map (fun e => (e.key, e.val)) = al.map (fun p => (kv p.1, p.2)) → (Instr.findKey kt (kv k) es).run P w = .ok (fnd k al 0) w
  same : ∀ k : K, Instr.sameBits 10000 (kv k) (kv k) = true

/-- block m is a map of just these entries -/
def AMap {K : Type} (kv : K → Value) (w : World) (m : Nat) (al : List (K × Value)) : Prop :=
  ∃ es c, w.heap[m]? = some (.map es c) ∧ es.toList.map (fun e => (e.key, e.val)) = al.map (fun p => (kv p.1, p.2))

theorem AMap.kept {K : Type} {kv : K → Value} {S : List Nat} {w w' : World} {m : Nat} {al : List (K × Value)} (h : AMap kv w m al) (hk : Kept S w w') (hn : m ∉ S) : AMap kv w' m al := by
  obtain ⟨es, c, h1, h2⟩ := h
  exact ⟨es, c, hk.heap h1 hn, h2⟩
theorem AMap.lt {K : Type} {kv : K → Value} {w : World} {m : Nat} {al : List (K × Value)} (h : AMap kv w m al) : m < w.heap.size := by
  obtain ⟨es, c, h1, _⟩ := h
  exact (Array.getElem?_eq_some_iff.1 h1).1

section
variable {P : Program} {K : Type} [DecidableEq K] {kv : K → Value} {kt et t : TypeId} {m : Nat} {al : List (K × Value)} {w : World}

theorem run_lookup_a (hk : KeyT P kt kv) (ht : P.underlying t = some (.map kt et)) (z : Value) (hz : (zeroValue et).run P w = .ok z w) (h : AMap kv w m al) (k : K) :
    (Instr.lookup t (.map (some m)) (kv k) false).run P w = .ok ((aget al k).getD z) w := by
  obtain ⟨es, c, h1, h2⟩ := h
  have hf := hk.find k al es.toList w h2
  have hg : (getObj m).run P w = .ok (.map es c) w := by
    simp [getObj, Sem.run, h1]
  unfold Instr.lookup
  simp only [Sem.run_bind, run_underlying ht, Result.andThen_ok, hg, Sem.run_pure, hk.check, hf]
  unfold aget
  cases hfn : fnd k al 0 with
  | none => simp [hz]
  | some x => simp

theorem fnd_none_es (k : K) : ∀ (al : List (K × Value)) (i : Nat), fnd k al i = none → aput al k = fun v => al ++ [(k, v)]
  | [], _, _ => rfl
  | p :: r, i, h => by
    simp only [fnd] at h
    split at h
    · cases h
    · rename_i hk
      funext v
      simp only [aput, if_neg hk, fnd_none_es k r (i + 1) h, List.cons_append]
theorem fnd_some_es (k : K) : ∀ (al : List (K × Value)) (i j : Nat) (u : Value), fnd k al i = some (j, u) → ∃ q, j = i + q ∧ q < al.length ∧ (al[q]?).map (·.1) = some k ∧ (∀ v, aput al k v = al.set q (k, v)) ∧ adel al k = al.eraseIdx q
  | [], _, _, _, h => by cases h
  | p :: r, i, j, u, h => by
    simp only [fnd] at h
    split at h
    · rename_i hk
      cases h
      exact ⟨0, by omega, by simp, by simp [hk], fun v => by simp [aput, hk], by simp [adel, hk]⟩
    · rename_i hk
      obtain ⟨q, h1, h2, h3, h4, h5⟩ := fnd_some_es k r (i + 1) j u h
      exact ⟨q + 1, by omega, by simpa using h2, by simpa using h3, fun v => by simp [aput, hk, h4], by simp [adel, hk, h5]⟩
theorem fnd_none_del (k : K) : ∀ (al : List (K × Value)) (i : Nat), fnd k al i = none → adel al k = al
  | [], _, _ => rfl
  | p :: r, i, h => by
    simp only [fnd] at h
    split at h
    · cases h
    · rename_i hk
      simp only [adel, if_neg hk, fnd_none_del k r (i + 1) h]

theorem run_update_a (hk : KeyT P kt kv) (ht : P.underlying t = some (.map kt et)) (h : AMap kv w m al) (k : K) (v : Value) :
    ∃ w', (Instr.mapUpdate t (.map (some m)) (kv k) v).run P w = .ok () w' ∧ AMap kv w' m (aput al k v) ∧ Kept [m] w w' := by
  obtain ⟨es, c, h1, h2⟩ := h
  have hlt : m < w.heap.size := (Array.getElem?_eq_some_iff.1 h1).1
  have hf := hk.find k al es.toList w h2
  have hg : (getObj m).run P w = .ok (.map es c) w := by
    simp [getObj, Sem.run, h1]
  have hset : ∀ o : Obj, (setObj m o).run P w = .ok () { w with heap := w.heap.setIfInBounds m o } := by
    intro o; simp [setObj, Sem.run, h1]
  have hkept : ∀ o : Obj, Kept [m] w { w with heap := w.heap.setIfInBounds m o } := fun o =>
    ⟨rfl, rfl, rfl, by simp, fun q _ hq => by
      show (w.heap.setIfInBounds m o)[q]? = _
      rw [Array.getElem?_setIfInBounds_ne (by simp at hq; exact fun e => hq e.symm)]⟩
  unfold Instr.mapUpdate
  simp only [Sem.run_bind, run_underlying ht, Result.andThen_ok, hg, hk.check, hf]
  cases hfn : fnd k al 0 with
  | none =>
    simp only [hset]
    refine ⟨_, rfl, ?_, hkept _⟩
    refine ⟨es.push { key := kv k, val := v, born := c }, c + 1, ?_, ?_⟩
    · show (w.heap.setIfInBounds m _)[m]? = _
      rw [Array.getElem?_setIfInBounds_self_of_lt hlt]
    · rw [fnd_none_es k al 0 hfn]
      simp only [Array.toList_push, List.map_append, h2, List.map_cons, List.map_nil]
  | some x =>
    obtain ⟨j, u⟩ := x
    obtain ⟨q, hq, hql, hqk, hput, _⟩ := fnd_some_es k al 0 j u hfn
    obtain rfl : j = q := by omega
    have hlen : es.size = al.length := by
      have := congrArg List.length h2
      simpa using this
    have hkey : (es[j]?).map (·.key) = some (kv k) := by
      have h3 := congrArg (fun l => (l[j]?).map (·.1)) h2
      simp only [List.getElem?_map, Array.getElem?_toList, Option.map_map] at h3
      have h4 : (es[j]?).map (·.key) = (al[j]?).map (fun p => kv p.1) := h3
      rw [h4]
      cases hal : al[j]? with
      | none => rw [hal] at hqk; cases hqk
      | some p => rw [hal] at hqk; simp at hqk; simp [hqk]
    have hstay : (Instr.keyThatStays (((es[j]?).map (·.key)).getD (kv k)) (kv k)).run P w = .ok (kv k) w := by
      rw [hkey]
      simp [Instr.keyThatStays, hk.same]
    simp only [Sem.run_bind, hstay, Result.andThen_ok, hset]
    refine ⟨_, rfl, ?_, hkept _⟩
    refine ⟨es.modify j fun e => { e with key := kv k, val := v }, c, ?_, ?_⟩
    · show (w.heap.setIfInBounds m _)[m]? = _
      rw [Array.getElem?_setIfInBounds_self_of_lt hlt]
    · rw [hput v]
      apply List.ext_getElem?
      intro i
      have h3 := congrArg (fun l => l[i]?) h2
      simp only [List.getElem?_map, Array.getElem?_toList] at h3
      simp only [List.getElem?_map, Array.getElem?_toList, Array.getElem?_modify, List.getElem?_set]
      by_cases hij : j = i
      · subst hij
        rw [if_pos rfl, if_pos rfl, if_pos hql]
        have he : es[j]? = some es[j] := Array.getElem?_eq_getElem (by omega)
        rw [he]; rfl
      · rw [if_neg hij, if_neg hij]; exact h3

theorem map_eraseIdx {α β : Type} (f : α → β) : ∀ (l : List α) (i : Nat), (l.eraseIdx i).map f = (l.map f).eraseIdx i
  | [], _ => rfl
  | _ :: _, 0 => rfl
  | a :: l, i + 1 => by simp [List.eraseIdx, map_eraseIdx f l i]
theorem run_delete_a (hk : KeyT P kt kv) (ht : P.underlying t = some (.map kt et)) (h : AMap kv w m al) (k : K) (u ty : TypeId) :
    ∃ w', (Builtin.delete_ #[t, u] ty #[.map (some m), kv k]).run P w = .ok (.tuple #[]) w' ∧ AMap kv w' m (adel al k) ∧ Kept [m] w w' := by
  obtain ⟨es, c, h1, h2⟩ := h
  have hlt : m < w.heap.size := (Array.getElem?_eq_some_iff.1 h1).1
  have hf := hk.find k al es.toList w h2
  have hg : (getObj m).run P w = .ok (.map es c) w := by
    simp [getObj, Sem.run, h1]
  have hset : ∀ o : Obj, (setObj m o).run P w = .ok () { w with heap := w.heap.setIfInBounds m o } := by
    intro o; simp [setObj, Sem.run, h1]
  have hkept : ∀ o : Obj, Kept [m] w { w with heap := w.heap.setIfInBounds m o } := fun o =>
    ⟨rfl, rfl, rfl, by simp, fun q _ hq => by
      show (w.heap.setIfInBounds m o)[q]? = _
      rw [Array.getElem?_setIfInBounds_ne (by simp at hq; exact fun e => hq e.symm)]⟩
  unfold Builtin.delete_
  simp only [List.getElem?_toArray, List.getElem?_cons_zero, List.getElem?_cons_succ, Sem.run_bind, run_underlying ht, Result.andThen_ok, hg, hk.check, hf]
  cases hfn : fnd k al 0 with
  | none =>
    simp only [Sem.run_bind, hset, Result.andThen_ok, Sem.run_pure]
    refine ⟨_, rfl, ?_, hkept _⟩
    rw [fnd_none_del k al 0 hfn]
    refine ⟨es, c, ?_, h2⟩
    show (w.heap.setIfInBounds m _)[m]? = _
    rw [Array.getElem?_setIfInBounds_self_of_lt hlt]
  | some x =>
    obtain ⟨j, u⟩ := x
    obtain ⟨q, hq, hql, _, _, hdel⟩ := fnd_some_es k al 0 j u hfn
    obtain rfl : j = q := by omega
    have hlen : es.size = al.length := by
      have := congrArg List.length h2
      simpa using this
    simp only [Sem.run_bind, hset, Result.andThen_ok, Sem.run_pure]
    refine ⟨_, rfl, ?_, hkept _⟩
    refine ⟨es.eraseIdxIfInBounds j, c, ?_, ?_⟩
    · show (w.heap.setIfInBounds m _)[m]? = _
      rw [Array.getElem?_setIfInBounds_self_of_lt hlt]
    · rw [hdel]
      have hj : j < es.size := by omega
      simp only [Array.eraseIdxIfInBounds, dif_pos hj, Array.toList_eraseIdx]
      rw [map_eraseIdx, h2, map_eraseIdx]
end

/-! strings -/
def kS (k : ByteArray) : Value := .string k
theorem beq_dec (a b : ByteArray) : (a == b) = decide (a = b) := by
  by_cases h : a = b
  · rw [(bytes_beq a b).2 h]; simp [h]
  · cases hb : (a == b) with
    | true => exact absurd ((bytes_beq a b).1 hb) h
    | false => simp [h]
theorem keyS {P : Program} {kt : TypeId} (hu : P.underlying kt = some .string) : KeyT P kt kS := by
  have hfind : ∀ (k : ByteArray) (al : List (ByteArray × Value)) (es : List MapEntry) (i : Nat), es.map (fun e => (e.key, e.val)) = al.map (fun p => (kS p.1, p.2)) → Instr.findNow .string (kS k) es i = some (fnd k al i) := by
    intro k al
    induction al with
    | nil => intro es i h; cases es <;> simp at h; rfl
    | cons p r ih =>
      intro es i h
      cases es with
      | nil => simp at h
      | cons e es =>
        simp only [List.map_cons, List.cons.injEq, Prod.mk.injEq] at h
        obtain ⟨⟨h1, h2⟩, h3⟩ := h
        have hsn : Instr.sameNow .string (kS k) (kS p.1) = some (decide (k = p.1)) := by rw [← beq_dec]; rfl
        simp only [Instr.findNow, h1, fnd, hsn]
        by_cases hk : k = p.1
        · simp [hk, h2]
        · simp [hk, ih es (i + 1) h3]
  refine ⟨fun em k w => run_checkKey (k := .string k) hu trivial em 9999, fun k al es w h => ?_, fun k => ?_⟩
  · unfold Instr.findKey
    simp only [Sem.run_bind, run_underlying hu, Result.andThen_ok, hfind k al es 0 h, Sem.run_pure]
  · show (k == k) = true
    exact (bytes_beq k k).2 rfl

/-! pairs of strings: a struct of two, an array of two -/
def kP (k : ByteArray × ByteArray) : Value := .agg #[.string k.1, .string k.2]
theorem part_s (xs : Array Value) (off : Nat) (s : ByteArray) (hx : xs[off]? = some (.string s)) (w : World) : (part 9 xs off).run Tryd.prog w = .ok (.string s) w :=
  run_part_plain w (by kernel_rfl) hx
theorem check_pair (em : Bool) (n : Nat) (a b : ByteArray) (w : World) : (Instr.checkKey em (n + 2) 114 (.agg #[.string a, .string b])).run Tryd.prog w = .ok () w := by
  have h0 := part_s #[.string a, .string b] 0 a rfl w
  have h1 := part_s #[.string a, .string b] 1 b rfl w
  have ca := run_checkKey (P := Tryd.prog) (w := w) (k := .string a) Tryd.underlying9 trivial em n
  have cb := run_checkKey (P := Tryd.prog) (w := w) (k := .string b) Tryd.underlying9 trivial em n
  have hu := run_underlying (P := Tryd.prog) Tryd.underlying114 w
  rw [Instr.checkKey]
  simp only [Sem.run_bind, hu, Result.andThen_ok]
  rw [← Array.forIn_toList]
  simp [h0, h1, ca, cb]
theorem check_arr (em : Bool) (n : Nat) (a b : ByteArray) (w : World) : (Instr.checkKey em (n + 2) 40 (.agg #[.string a, .string b])).run Tryd.prog w = .ok () w := by
  have h0 := part_s #[.string a, .string b] 0 a rfl w
  have h1 := part_s #[.string a, .string b] 1 b rfl w
  have ca := run_checkKey (P := Tryd.prog) (w := w) (k := .string a) Tryd.underlying9 trivial em n
  have cb := run_checkKey (P := Tryd.prog) (w := w) (k := .string b) Tryd.underlying9 trivial em n
  have hu := run_underlying (P := Tryd.prog) Tryd.underlying40 w
  have hs : (sizeOf 9).run Tryd.prog w = .ok 1 w := by kernel_rfl
  rw [Instr.checkKey]
  simp only [Sem.run_bind, hu, Result.andThen_ok]
  simp [Std.Legacy.Range.forIn_eq_forIn_range', Std.Legacy.Range.size, List.range'_succ, h0, h1, ca, cb, hs]
theorem eq_pair (n : Nat) (a b c d : ByteArray) (w : World) : (Op.equalIn (n + 2) 114 (.agg #[.string a, .string b]) (.agg #[.string c, .string d])).run Tryd.prog w = .ok (decide (a = c ∧ b = d)) w := by
  have h0 := part_s #[.string a, .string b] 0 a rfl w
  have h1 := part_s #[.string a, .string b] 1 b rfl w
  have h2 := part_s #[.string c, .string d] 0 c rfl w
  have h3 := part_s #[.string c, .string d] 1 d rfl w
  have ca := run_equalIn_string (P := Tryd.prog) w n 9 a c Tryd.underlying9
  have cb := run_equalIn_string (P := Tryd.prog) w n 9 b d Tryd.underlying9
  have hu := run_underlying (P := Tryd.prog) Tryd.underlying114 w
  have hst : Tryd.prog.stoodInHeld 114 = false := by kernel_rfl
  rw [← beq_toListBytes, beq_dec] at ca cb
  rw [Op.equalIn]
  simp only [Sem.run_bind, hu, Result.andThen_ok]
  rw [← Array.forIn_toList]
  simp [h0, h1, h2, h3, ca, cb, hst]
  by_cases e1 : a = c <;> by_cases e2 : b = d <;> simp [e1, e2]
theorem eq_arr (n : Nat) (a b c d : ByteArray) (w : World) : (Op.equalIn (n + 2) 40 (.agg #[.string a, .string b]) (.agg #[.string c, .string d])).run Tryd.prog w = .ok (decide (a = c ∧ b = d)) w := by
  have h0 := part_s #[.string a, .string b] 0 a rfl w
  have h1 := part_s #[.string a, .string b] 1 b rfl w
  have h2 := part_s #[.string c, .string d] 0 c rfl w
  have h3 := part_s #[.string c, .string d] 1 d rfl w
  have ca := run_equalIn_string (P := Tryd.prog) w n 9 a c Tryd.underlying9
  have cb := run_equalIn_string (P := Tryd.prog) w n 9 b d Tryd.underlying9
  have hu := run_underlying (P := Tryd.prog) Tryd.underlying40 w
  have hs : (sizeOf 9).run Tryd.prog w = .ok 1 w := by kernel_rfl
  rw [← beq_toListBytes, beq_dec] at ca cb
  rw [Op.equalIn]
  simp only [Sem.run_bind, hu, Result.andThen_ok]
  simp [Std.Legacy.Range.forIn_eq_forIn_range', Std.Legacy.Range.size, List.range'_succ, h0, h1, h2, h3, ca, cb, hs]
  by_cases e1 : a = c <;> by_cases e2 : b = d <;> simp [e1, e2]

theorem find_pair {kt : TypeId} (hw : ∀ (x : Value) (es : List MapEntry) (w : World), (Instr.findKey kt x es).run Tryd.prog w = (Instr.findAsking kt x es).run Tryd.prog w)
    (heq : ∀ (k k' : ByteArray × ByteArray) (w : World), (Op.equal kt (kP k) (kP k')).run Tryd.prog w = .ok (decide (k = k')) w) (k : ByteArray × ByteArray) (al : List ((ByteArray × ByteArray) × Value)) (es : List MapEntry) (w : World)
    (h : es.map (fun e => (e.key, e.val)) = al.map (fun p => (kP p.1, p.2))) : (Instr.findKey kt (kP k) es).run Tryd.prog w = .ok (fnd k al 0) w := by
  rw [hw]
  have hfind : ∀ (al : List ((ByteArray × ByteArray) × Value)) (es : List MapEntry) (i : Nat), es.map (fun e => (e.key, e.val)) = al.map (fun p => (kP p.1, p.2)) → (Instr.findAsking kt (kP k) es i).run Tryd.prog w = .ok (fnd k al i) w := by
    intro al
    induction al with
    | nil => intro es i h; cases es <;> simp at h; simp [Instr.findAsking, fnd]
    | cons p r ih =>
      intro es i h
      cases es with
      | nil => simp at h
      | cons e es =>
        simp only [List.map_cons, List.cons.injEq, Prod.mk.injEq] at h
        obtain ⟨⟨h1, h2⟩, h3⟩ := h
        simp only [Instr.findAsking, h1, Sem.run_bind, heq, Result.andThen_ok, fnd]
        by_cases hk : k = p.1
        · simp [hk, h2]
        · simp [hk, ih es (i + 1) h3]
  exact hfind al es 0 h
theorem dec_pair (k k' : ByteArray × ByteArray) : decide (k = k') = decide (k.1 = k'.1 ∧ k.2 = k'.2) := by
  rw [decide_eq_decide]; exact ⟨fun e => by rw [e]; exact ⟨rfl, rfl⟩, fun e => Prod.ext e.1 e.2⟩
theorem same_pair (k : ByteArray × ByteArray) : Instr.sameBits 10000 (kP k) (kP k) = true := by
  show ((2 : Nat) == 2 && (Instr.sameBits 9999 (.string k.1) (.string k.1) && (Instr.sameBits 9999 (.string k.2) (.string k.2) && true))) = true
  have h : ∀ a : ByteArray, Instr.sameBits 9999 (.string a) (.string a) = true := fun a => (bytes_beq a a).2 rfl
  rw [h, h]; rfl
theorem keyP : KeyT Tryd.prog 114 kP := by
  refine ⟨fun em k w => check_pair em 9998 k.1 k.2 w, fun k al es w h => find_pair (fun x es w => run_findKey_eq w (by rw [Tryd.underlying114]) x es) (fun k k' w => ?_) k al es w h, same_pair⟩
  rw [dec_pair]; exact eq_pair 9998 k.1 k.2 k'.1 k'.2 w
theorem keyA : KeyT Tryd.prog 40 kP := by
  refine ⟨fun em k w => check_arr em 9998 k.1 k.2 w, fun k al es w h => find_pair (fun x es w => run_findKey_eq w (by rw [Tryd.underlying40]) x es) (fun k k' w => ?_) k al es w h, same_pair⟩
  rw [dec_pair]; exact eq_arr 9998 k.1 k.2 k'.1 k'.2 w

#print axioms run_update_a
#print axioms run_delete_a
#print axioms keyA
#print axioms keyP
end Go.Proofs.YtoceghdnipjkfaaDoor
