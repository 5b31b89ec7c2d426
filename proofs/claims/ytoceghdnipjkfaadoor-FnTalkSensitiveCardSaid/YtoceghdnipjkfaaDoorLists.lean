/-
  Lists of fields copied: zzTable, fromFields; looking up in the dynamic table.
-/
import Derived.Test.YtoceghdnipjkfaaDoorSearch
import Derived.Test.YtoceghdnipjkfaaDoorVarInt
namespace Go.Proofs.YtoceghdnipjkfaaDoor
open Go.RowKit

def searchDyn (f : Fld) (T : Tab) : Nat × Bool :=
  searchRes f (lastId (hasName f.name) T.ents (T.ev + 1)) (lastId (hasPair (f.name, f.value)) T.ents (T.ev + 1)) (fun i => T.ev + T.ents.length + 1 - i)
theorem search_dyn (b : Nat) (T : Tab) (v : Value) (m1 m2 : Nat) (rest : List Value) (ty : TypeId) (f : Fld) (w : World) (h : TabRep w b T v m1 m2 rest ty) (hT : T.ents.length + T.ev < 4294967296) :
    Calls Tryd.prog 46 #[.pointer (some ⟨b, 0, none⟩), .agg #[.string f.name, .string f.value, .bool f.sens]] w fun e w' => e = .returned (.tuple #[.int .u64 (searchDyn f T).1, .bool (searchDyn f T).2]) ∧ Kept [] w w' := by
  obtain ⟨al1, al2, A1, A2, U1, U2, L1, L2⟩ := h.maps
  obtain ⟨p, cap, hv, _⟩ := ownsRow_slice h.row
  refine search_gen b m1 m2 f _ _ (fun i => T.ev + T.ents.length + 1 - i) w (h.blk.cell 3 rfl) (h.blk.cell 4 rfl) A1 A2 (L1 _) (L2 _) ?_
  intro i hi h0 w' hk
  have B := h.blk.kept hk (by simp)
  have c1 := B.cell 1 rfl
  rw [hv] at c1
  have hb : T.ev < i ∧ i ≤ T.ev + T.ents.length := by
    rcases hi with rfl | rfl
    · rcases lastId_le (hasName f.name) T.ents (T.ev + 1) with h | h <;> omega
    · rcases lastId_le (hasPair (f.name, f.value)) T.ents (T.ev + 1) with h | h <;> omega
  exact id_dyn b p T.ents.length cap T.ev i w' (B.cell 0 rfl) c1 (B.cell 2 rfl) hb.1 hb.2 (by omega)

theorem info23 : (Tryd.prog.info? 23).map (fun i => (i.zero, i.size, i.bytes)) = some (some (.agg #[.string ⟨#[]⟩, .string ⟨#[]⟩, .bool false]), 3, 40) := by kernel_rfl

/-- 'append(dst, x)': the literal's row has just been made. -/
theorem app_row (W : World) {P : Program} {ops : Array Oper} {rest : List Oper} {o : Oper} {a : Act} {Q : Exit → Act → World → Prop} (T e : TypeId) (z : Value) (size bytes : Nat) (ht : P.underlying T = some (.slice e)) (hinfo : (P.info? e).map (fun i => (i.zero, i.size, i.bytes)) = some (some z, size, bytes)) (hzs : z.cells.size = size)
    (hgd : o.guard = none) (s x : Operand) (ho : o.op = .call { callee := .builtin .append, args := #[s, x], argTypes := #[T, T] }) (v : Value) (n : Nat) (xs : List Value) (hsv : a.eval s = v) (hown : W.ownsRow 0 e size v n xs)
    (cs : Array Value) (hx : a.eval x = .slice (some ⟨W.heap.size, 0, none⟩) 1 1) (news : List Value) (hcs : cs.toList = news) (hnl : news.length = size) (h1 : ∀ u ∈ news, u.oneCell' = true) (h63 : n + 1 ≤ maxLen) (hbytes : (n + 1) * bytes ≤ 140737488355328)
    (h : ∀ v' w', w'.ownsRow 0 e size v' (n + 1) (xs ++ news) → Kept v.ownBlock.toList W w' → NewBlk W v v' → wpList P ops Q rest (a.put o.dst v') w') : wpList P ops Q (o :: rest) a (W.alloc (.cells cs e)) := by
  obtain ⟨i0, hi0, hz0, hz1, hz2⟩ := info_parts hinfo
  have hsrc : Src P size T (.slice (some ⟨W.heap.size, 0, none⟩) 1 1) 1 news (W.alloc (.cells cs e)) := by
    refine Src.ofSlice _ ht _ 1 1 news (by rw [hnl, Nat.one_mul]) (fun j u hj => ?_) h1
    rw [Addr.add_lit, Nat.zero_add, World.cell?_alloc_new, ← Array.getElem?_toList, hcs]
    exact hj
  refine wpList_app _ hgd s x T T ho e i0 z size bytes ht hi0 hz0 hz1 hz2 hzs v n xs hsv (World.ownsRow.alloc hown _) _ hx 1 news hsrc h63 hbytes ?_
  intro v' w' h1 h2 h3 h4
  refine h v' w' h1 ?_ ?_
  · exact ((Kept.refl _ W).alloc _).step h2 (fun b hb => .inl hb)
  · rcases h3 with e | ⟨g, e, hg⟩
    · exact .inl e
    · exact .inr ⟨g, e, by simp at hg; omega⟩
/-- the row of v is new, or there is none -/
def Fresh (w : World) (v : Value) : Prop := ∀ g, v.ownBlock = some g → w.heap.size ≤ g
theorem Fresh.new {w w1 : World} {v v' : Value} (h : Fresh w v) (hs : w.heap.size ≤ w1.heap.size) (k : NewBlk w1 v v') : Fresh w v' := by
  intro g hg
  rcases k with e | ⟨g', e, hg'⟩
  · exact h g (by rw [← e]; exact hg)
  · rw [e] at hg; cases hg; omega
theorem Fresh.kept {w w1 w2 : World} {v : Value} (h : Fresh w v) (k : Kept [] w w1) (k2 : Kept v.ownBlock.toList w1 w2) : Kept [] w w2 :=
  k.step k2 (fun b hb => .inr (h b (by simpa [eq_comm] using hb)))
def NewRow (w : World) (e : TypeId) (l : List Fld) (en : Ending) (w' : World) : Prop :=
  ∃ v', en = .returned v' ∧ w'.ownsRow 0 e 3 v' l.length (l.flatMap fc) ∧ Kept [] w w' ∧ Fresh w v'

def ZzRel (w : World) (T : Tab) (a b : Value) (wr : World) : Prop :=
  ∃ k : Nat, k ≤ T.ents.length ∧ b = .int .i64 ((T.ents.length : Int) - 1 - k) ∧ wr.ownsRow 0 50 3 a k ((T.ents.reverse.take k).flatMap fc) ∧ Kept [] w wr ∧ Fresh w a
set_option maxRecDepth 100000 in
set_option maxHeartbeats 1000000 in
theorem zz_any (b : Nat) (T : Tab) (v : Value) (m1 m2 : Nat) (rest : List Value) (ty : TypeId) (w : World) (h : TabRep w b T v m1 m2 rest ty) (hT : T.ents.length < 4294967296) :
    Calls Tryd.prog 41 #[.pointer (some ⟨b, 0, none⟩)] w (NewRow w 50 T.ents.reverse) := by
  obtain ⟨p, cap, hv, hcap, hm⟩ := ownsRow_slice h.row
  have HM := Lib.hid hm; clear hm
  have c1 := h.blk.cell 1 rfl
  rw [hv] at c1
  go_enter Tryd.func41, Tryd.ntmps41
  go_wp2_with fail
  go_loopw [3, 4] (ZzRel w T) (fun _ b _ => (intOf b + 1).toNat)
  case atStart => exact ⟨0, Nat.zero_le _, by go_num, by simpa using World.ownsRow_nil w 0 50 3, Kept.refl _ _, by intro g hg; cases hg⟩
  case round =>
    obtain ⟨k, hk, rfl, hrow, kk, hf⟩ := hrel
    clear c1
    have B := h.blk.kept kk (by simp)
    have c1 := B.cell 1 rfl
    rw [hv] at c1
    by_cases hlt : k < T.ents.length
    · have hg : ∃ g, p = some ⟨g, 0, none⟩ := by
        rcases h.row.2 with ⟨h0, h1⟩ | ⟨g, cap', cur, h0, _⟩
        · omega
        · rw [hv] at h0; simp at h0; exact ⟨g, h0.1⟩
      obtain ⟨g, rfl⟩ := hg
      have hrow2 := ownsRow_kept h.row kk (by simp)
      rw [hv] at hrow2
      have hj : T.ents.length - 1 - k < T.ents.length := by omega
      obtain ⟨j, hjj⟩ : ∃ j, T.ents.length - 1 - k = j := ⟨_, rfl⟩
      rw [hjj] at hj
      have hfj : T.ents[j]? = some T.ents[j] := List.getElem?_eq_getElem hj
      generalize T.ents[j] = f at hfj
      obtain ⟨d0, d1, d2⟩ := fld_cells hrow2 j f hfj
      have e1 : ((T.ents.length : Int) - 1 - k) = (j : Int) := by omega
      have htk : T.ents.reverse.take (k + 1) = T.ents.reverse.take k ++ [f] := by
        rw [List.take_add_one, List.getElem?_reverse (by omega), hjj, hfj]; rfl
      have HTK := Lib.hid htk; clear htk
      have HFJ := Lib.hid hfj; clear hfj
      rw [e1]
      have hTl : T.ents.length < 4294967296 := hT
      go_wp2_with (at_builtin; go_must (refine app_row _ 46 50 _ 3 40 Tryd.underlying46 info50 rfl rfl _ _ rfl _ k _ rfl hrow _ rfl (fc f) rfl rfl (by intro u hu; simp [fc] at hu; rcases hu with rfl | rfl | rfl <;> rfl) (by unfold maxLen; omega) (by omega) ?_; intro v2 w2 h6 h7 h8))
      refine ⟨⟨k + 1, by omega, by go_num, ?_, hf.kept kk h7, hf.new kk.size h8⟩, by simp [intOf] <;> omega⟩
      rw [HTK.out, flat_snoc]
      exact h6
    · have hkn : k = T.ents.length := by omega
      subst hkn
      have e1 : ((T.ents.length : Int) - 1 - T.ents.length) = -1 := by omega
      rw [e1]
      go_wp2_with fail
      go_ret
      refine ⟨_, rfl, ?_, kk, hf⟩
      rw [List.length_reverse]
      rw [List.take_of_length_le (by simp)] at hrow
      exact hrow
theorem zz_enc (b : Nat) (T : Tab) (v : Value) (m1 m2 : Nat) (rest : List Value) (ty : TypeId) (w : World) (h : TabRep w b T v m1 m2 rest ty) (hT : T.ents.length < 4294967296) :
    Calls Tryd.prog 22 #[.pointer (some ⟨b, 0, none⟩)] w (NewRow w 50 T.ents.reverse) := by
  have c0 := h.blk.cell 0 rfl
  go_enter Tryd.func22, Tryd.ntmps22
  go_wp2_with (go_at_call 41; refine (zz_any b T v m1 m2 rest ty _ h hT).mono ?_; rintro e w' ⟨v', rfl, h1, h2, h3⟩)
  go_ret
  exact ⟨_, rfl, h1, h2, h3⟩
theorem zz_dec (b : Nat) (T : Tab) (v : Value) (m1 m2 : Nat) (rest : List Value) (ty : TypeId) (w : World) (h : TabRep w b T v m1 m2 rest ty) (hT : T.ents.length < 4294967296) :
    Calls Tryd.prog 24 #[.pointer (some ⟨b, 0, none⟩)] w (NewRow w 50 T.ents.reverse) := by
  have c0 := h.blk.cell 0 rfl
  go_enter Tryd.func24, Tryd.ntmps24
  go_wp2_with (go_at_call 41; refine (zz_any b T v m1 m2 rest ty _ h hT).mono ?_; rintro e w' ⟨v', rfl, h1, h2, h3⟩)
  go_ret
  exact ⟨_, rfl, h1, h2, h3⟩

/-- the k-th field of what may be read as a list of fields -/
def Reads3 (w : World) (e : TypeId) (v : Value) (l : List Fld) : Prop := w.ownsRow 0 e 3 v l.length (l.flatMap fc)
def FfRel (w : World) (l : List Fld) (a b : Value) (wr : World) : Prop :=
  ∃ k : Nat, k ≤ l.length ∧ b = .int .i64 k ∧ wr.ownsRow 0 23 3 a k ((l.take k).flatMap fc) ∧ Kept [] w wr ∧ Fresh w a
set_option maxRecDepth 100000 in
set_option maxHeartbeats 1000000 in
theorem from_any (v : Value) (l : List Fld) (w : World) (h : w.ownsRow 0 50 3 v l.length (l.flatMap fc)) (hT : l.length < 4294967296) :
    Calls Tryd.prog 20 #[v] w (NewRow w 23 l) := by
  obtain ⟨p, cap, hv, hcap, hm⟩ := ownsRow_slice h
  have HM := Lib.hid hm; clear hm
  subst hv
  go_enter Tryd.func20, Tryd.ntmps20
  go_wp2_with fail
  go_loopw [3, 8] (FfRel w l) (fun _ b _ => l.length - (intOf b).toNat)
  case atStart => exact ⟨0, Nat.zero_le _, rfl, by simpa using World.ownsRow_nil w 0 23 3, Kept.refl _ _, by intro g hg; cases hg⟩
  case round =>
    obtain ⟨k, hk, rfl, hrow, kk, hf⟩ := hrel
    by_cases hlt : k < l.length
    · have hg : ∃ g, p = some ⟨g, 0, none⟩ := by
        rcases h.2 with ⟨h0, h1⟩ | ⟨g, cap', cur, h0, _⟩
        · omega
        · simp at h0; exact ⟨g, h0.1⟩
      obtain ⟨g, rfl⟩ := hg
      have hrow2 := ownsRow_kept h kk (by simp)
      have hfj : l[k]? = some l[k] := List.getElem?_eq_getElem hlt
      generalize l[k] = f at hfj
      obtain ⟨d0, d1, d2⟩ := fld_cells hrow2 k f hfj
      have htk : l.take (k + 1) = l.take k ++ [f] := by
        rw [List.take_add_one, hfj]; rfl
      have HTK := Lib.hid htk; clear htk
      have HFJ := Lib.hid hfj; clear hfj
      go_upto_region 5 with (fail)
      generalize hw1 : wr.alloc _ = w1
      obtain ⟨k1, X1, hx1⟩ := box_cells (l := fc f) hw1
      have hrow1 := ownsRow_kept hrow k1 (by simp)
      have x0 := X1.cell 0 rfl
      have x1 := X1.cell 1 rfl
      have x2 := X1.cell 2 rfl
      generalize hxe : wr.heap.size = xb at X1 hx1 x0 x1 x2 ⊢
      have HW := Lib.hid hw1; clear hw1
      have HX := Lib.hid hxe; clear hxe
      go_wp2_with (at_builtin; go_must (refine app_row _ 25 23 _ 3 40 Tryd.underlying25 info23 rfl rfl _ _ rfl _ k _ rfl hrow1 _ rfl (fc f) rfl rfl (by intro u hu; simp [fc] at hu; rcases hu with rfl | rfl | rfl <;> rfl) (by unfold maxLen; omega) (by omega) ?_; intro v2 w2 h6 h7 h8))
      have kk1 := kk.trans k1
      refine ⟨⟨k + 1, by omega, by go_num, ?_, hf.kept kk1 h7, hf.new kk1.size h8⟩, by simp [intOf] <;> omega⟩
      rw [HTK.out, flat_snoc]
      exact h6
    · have hkn : k = l.length := by omega
      subst hkn
      go_wp2_with fail
      go_ret
      refine ⟨_, rfl, ?_, kk, hf⟩
      rw [List.take_of_length_le (by simp)] at hrow
      exact hrow
end Go.Proofs.YtoceghdnipjkfaaDoor
