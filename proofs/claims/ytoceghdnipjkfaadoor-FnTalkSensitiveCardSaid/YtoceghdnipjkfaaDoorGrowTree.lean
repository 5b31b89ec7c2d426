/-
  getRootHuffmanNode lays the tree.
-/
import Derived.Test.YtoceghdnipjkfaaDoorTree
import Derived.Deep.MidRow
namespace Go.Proofs.YtoceghdnipjkfaaDoor
open Go.RowKit

noncomputable def codesV : List Value := hcodeL.map fun n : Nat => Value.int .u32 (n : Int)
theorem codesV_len : codesV.length = 256 := by unfold codesV; rw [List.length_map, hcodeL_len]
theorem Glob.range {w : World} (h : Glob w) : w.rangeAt 5 0 codesV := by
  intro j v hj
  unfold codesV at hj
  rw [List.getElem?_map] at hj
  cases hn : hcodeL[j]? with
  | none => rw [hn] at hj; cases hj
  | some n =>
    rw [hn] at hj; cases hj
    rw [Nat.zero_add]; exact h.code j n hn
theorem idx131 (cs : List Value) (k c : Nat) (hk : k < 256) (h : cs[k]? = some (.int .u32 (c : Nat))) (w : World) : (Instr.index 131 (.agg cs.toArray) (.int .i64 k)).run Tryd.prog w = .ok (.int .u32 (c : Nat)) w := by
  have h1 : (0 : Int) ≤ k ∧ (k : Int) < ((256 : Nat) : Int) := by omega
  have hz : ∀ w : World, (sizeOf 49).run Tryd.prog w = .ok 1 w := by intro w; kernel_rfl
  have ha : ∀ w : World, (isAgg 49).run Tryd.prog w = .ok false w := by intro w; kernel_rfl
  simp only [Instr.index, asIntOf, Sem.run_bind, Sem.run_pure, Result.andThen_ok, run_underlying Tryd.underlying131]
  rw [if_pos h1]
  simp [Sem.run_bind, hz, part, ha, h]
def rem8 (L : Nat) : Nat := (L - 1) % 8 + 1
/-- the leaves of the first k symbols -/
structure LvOk (lv : List Value) (k : Nat) : Prop where
  len : lv.length = 768
  c0 : ∀ s, s < 256 → lv[3 * s]? = some (.pointer none)
  c1 : ∀ s, s < k → lv[3 * s + 1]? = some (.int .u8 (rem8 (hlenL.getD s 0) : Nat))
  c2 : ∀ s, s < k → lv[3 * s + 2]? = some (.int .u8 (s : Nat))
def lv0 : List Value := (List.range 256).flatMap fun _ => [Value.pointer none, .int .u8 0, .int .u8 0]
theorem zc144 : Tryd.zeroCells144 = lv0.toArray := by kernel_rfl
theorem lv_start : LvOk lv0 0 := by
  refine ⟨by kernel_rfl, fun s hs => ?_, fun s hs => by omega, fun s hs => by omega⟩
  have h : (List.range 256).map (fun s => lv0[3 * s]?) = (List.range 256).map (fun _ => some (Value.pointer none)) := by kernel_rfl
  exact List.map_inj_left.1 h s (List.mem_range.2 hs)
theorem tree_start (w : World) : TreeRep (((w.alloc (.cells nils.toArray 145)).alloc (.cells [.pointer (some ⟨w.heap.size, 0, none⟩), .int .u8 0, .int .u8 0].toArray 141)).alloc (.cells Tryd.zeroCells144 144)) w.heap.size [z256] lv0 where
  size := by simp
  pos := by simp
  ch := fun i row hi => by
    have e : i = 0 := by have := (List.getElem?_eq_some_iff.1 hi).1; simp at this; exact this
    subst e
    simp at hi; subst hi
    rw [nils_map]
    exact ((Blk.new w nils 145).alloc _).alloc _
  nd := fun i hi => by
    have e : i = 0 := by simp at hi; exact hi
    subst e
    have := (Blk.new (w.alloc (.cells nils.toArray 145)) [.pointer (some ⟨w.heap.size, 0, none⟩), .int .u8 0, .int .u8 0] 141).alloc (.cells Tryd.zeroCells144 144)
    simpa [nb, cb] using this
  lf := by
    have := Blk.new ((w.alloc (.cells nils.toArray 145)).alloc (.cells [.pointer (some ⟨w.heap.size, 0, none⟩), .int .u8 0, .int .u8 0].toArray 141)) lv0 144
    rw [zc144]
    have e : ((w.alloc (.cells nils.toArray 145)).alloc (.cells [.pointer (some ⟨w.heap.size, 0, none⟩), .int .u8 0, .int .u8 0].toArray 141)).heap.size = w.heap.size + 2 := by simp
    rw [e] at this
    exact this
  rows := fun i row hi => by
    have := List.mem_of_getElem? hi
    simp at this; subst this; exact List.length_replicate
theorem build_up (n : Nat) (h : n < 256) : (build (n + 1)).isSome = true := by
  have h256 : (build 256).isSome = true := by rw [build_eq]; rfl
  have : ∀ d, d + (n + 1) = 256 → ∀ m, m = n + 1 → (build m).isSome = true := by
    intro d
    induction d generalizing n with
    | zero => intro hd m hm; rw [hm, show n + 1 = 256 from by omega]; exact h256
    | succ d ih =>
      intro hd m hm
      have h2 := ih (n + 1) (by omega) (by omega) (n + 2) rfl
      rw [hm]
      cases hb : build (n + 1) with
      | some T => rfl
      | none => rw [build, hb] at h2; cases h2
  exact this (255 - n) (by omega) _ rfl
theorem node_rep {H : Nat} {T : Trie} {lv : List Value} (w : World) (h : TreeRep w H T lv) : Calls Tryd.prog 76 #[] w fun e w' => e = .returned (.pointer (some ⟨nb H T.length, 0, none⟩)) ∧ TreeRep w' H (T ++ [z256]) lv ∧ Kept [] w w' := by
  refine (node_new w).mono ?_
  rintro e w' ⟨rfl, rfl⟩
  refine ⟨?_, h.newNode, ((Kept.refl [] w).alloc _).alloc _⟩
  have : nb H T.length = w.heap.size + 1 := by unfold nb cb; rw [if_neg (by have := h.pos; omega), h.size]
  rw [this]
def TrRel (w : World) (a : Value) (wr : World) : Prop :=
  ∃ k T lv, k ≤ 256 ∧ a = .int .i64 (k : Nat) ∧ build k = some T ∧ TreeRep wr w.heap.size T lv ∧ LvOk lv k ∧ Kept [] w wr
def InRel (w : World) (s c L : Nat) (lv : List Value) (tgt : Trie) (a5 a6 : Value) (wr : World) : Prop :=
  ∃ T cur cl n, a5 = .int .u8 (cl : Nat) ∧ a6 = .pointer (some ⟨nb w.heap.size cur, 0, none⟩) ∧ cur < T.length ∧ TreeRep wr w.heap.size T lv ∧ insGo s c n T cur cl = some tgt ∧ cl ≤ 30 ∧ 1 ≤ cl ∧ rem8 cl = rem8 L ∧ Kept [] w wr
theorem wrap64_small (P : Nat) (h : P ≤ 2 ^ 7) : wrap64 (P : Int) = (P : Int) := by
  have h2 : (P : Int) ≤ 128 := by omega
  unfold wrap64; omega
theorem set_same {l : Trie} {i : Nat} {a : List Nat} (h : l[i]? = some a) : l.set i a = l := by
  apply List.ext_getElem?
  intro m
  rw [List.getElem?_set]
  split
  · rename_i e; subst e; split
    · exact h.symm
    · rename_i hn; rw [List.getElem?_eq_none (by omega)]
  · rfl
theorem fill_step (row : List Nat) (a j v : Nat) : fillRow row a (j + 1) v = (fillRow row a j v).set (a + j) v := by
  simp [fillRow, List.range_succ]
theorem lv_step {lv : List Value} {k L : Nat} (h : LvOk lv k) (hk : k < 256) (hL : rem8 (hlenL.getD k 0) = L) : LvOk ((lv.set (k * 3 + 2) (.int .u8 k)).set (k * 3 + 1) (.int .u8 L)) (k + 1) := by
  have hl := h.len
  refine ⟨by simpa using hl, fun s hs => ?_, fun s hs => ?_, fun s hs => ?_⟩
  · rw [List.getElem?_set_ne (by omega), List.getElem?_set_ne (by omega)]; exact h.c0 s hs
  · by_cases e : s = k
    · subst e; rw [show 3 * s + 1 = s * 3 + 1 from by omega, List.getElem?_set_self (by simp; omega), hL]
    · rw [List.getElem?_set_ne (by omega), List.getElem?_set_ne (by omega)]; exact h.c1 s (by omega)
  · by_cases e : s = k
    · subst e; rw [show 3 * s + 2 = s * 3 + 2 from by omega, List.getElem?_set_ne (by omega), List.getElem?_set_self (by omega)]
    · rw [List.getElem?_set_ne (by omega), List.getElem?_set_ne (by omega)]; exact h.c2 s (by omega)
def FillRel (w : World) (k st0 nn : Nat) (T : Trie) (cur : Nat) (row : List Nat) (lv : List Value) (a : Value) (wr : World) : Prop :=
  ∃ j : Nat, j ≤ nn ∧ a = .int .i64 (st0 + j : Nat) ∧ TreeRep wr w.heap.size (T.set cur (fillRow row st0 j (k + 1))) lv ∧ Kept [] w wr
/-- the whole tree, from block w.heap.size on -/
def TreeRet (w : World) (e : Ending) (w' : World) : Prop :=
  ∃ lv, e = .returned (.pointer (some ⟨nb w.heap.size 0, 0, none⟩)) ∧ TreeRep w' w.heap.size trieL lv ∧ LvOk lv 256 ∧ Kept [] w w'
set_option maxRecDepth 100000 in
set_option maxHeartbeats 4000000 in
theorem tree_any (w : World) (hg : Glob w) : Calls Tryd.prog 74 #[] w (TreeRet w) := by
  go_enter Tryd.func74, Tryd.ntmps74
  go_upto_region 4 with ((go_at_call 76; refine (node_new _).mono ?_; rintro e w1 ⟨rfl, rfl⟩))
  have hstart : TreeRep _ w.heap.size [z256] _ := tree_start w
  have hk0 : Kept [] w (((w.alloc (.cells nils.toArray 145)).alloc (.cells [.pointer (some ⟨w.heap.size, 0, none⟩), .int .u8 0, .int .u8 0].toArray 141)).alloc (.cells Tryd.zeroCells144 144)) := (((Kept.refl [] w).alloc _).alloc _).alloc _
  generalize hw1 : World.alloc _ _ = w1 at hstart hk0
  have hR : w1.rangeAt 5 0 codesV := (hg.kept hk0 (by simp) (by simp)).range
  obtain ⟨cs, hcs⟩ : ∃ cs, codesV = cs := ⟨_, rfl⟩
  have hcl : cs.length = 256 := by rw [← hcs]; exact codesV_len
  rw [hcs] at hR
  have hi : (Tryd.prog.info? 131).map (·.size) = some cs.length := by rw [hcl]; kernel_rfl
  go_upto_block 0 with (refine wpList_load_mid rfl 131 (.global 5) rfl 5 0 rfl cs _ hR Tryd.underlying131 rfl hi ?_)
  have HW1 := Lib.hid hw1; clear hw1
  have HCS := Lib.hid hcs; clear hcs
  clear hi hR
  go_wp2_with fail
  go_loopw [16] (TrRel w) (fun a _ => 256 - (intOf a).toNat)
  case atStart => exact ⟨0, [z256], _, by omega, rfl, rfl, hstart, lv_start, hk0⟩
  case round =>
    obtain ⟨k, T, lv, hk, rfl, hb, hT, hlv, kk⟩ := hrel
    have g := hg.kept kk (by simp) (by simp)
    by_cases hlt : k < 256
    · have hcl : k < hcodeL.length := by rw [hcodeL_len]; exact hlt
      have hll : k < hlenL.length := by rw [hlenL_len]; exact hlt
      have hck : cs[k]? = some (.int .u32 (hcodeL.getD k 0 : Nat)) := by
        rw [← HCS.out]; unfold codesV
        rw [List.getElem?_map, List.getD_eq_getElem?_getD, List.getElem?_eq_getElem hcl]; rfl
      have hlk : wr.cell? ⟨4, k, none⟩ = some (.int .u8 (hlenL.getD k 0 : Nat)) := g.len k _ (by rw [List.getD_eq_getElem?_getD, List.getElem?_eq_getElem hll]; rfl)
      have hLb := hl_le (UInt8.ofNat k)
      have hCb := hc_lt (UInt8.ofNat k)
      have hb1 : (build (k + 1)).isSome = true := build_up _ hlt
      rw [build, hb] at hb1
      have hHb : hl (UInt8.ofNat k) = hlenL.getD k 0 := by unfold hl; rw [show (UInt8.ofNat k).toNat = k from b8_toNat hlt]
      have hCc : hc (UInt8.ofNat k) = hcodeL.getD k 0 := by unfold hc; rw [show (UInt8.ofNat k).toNat = k from b8_toNat hlt]
      rw [hHb] at hLb hCb
      rw [hCc] at hCb
      simp only [Option.bind_some] at hb1
      obtain ⟨c, hc⟩ : ∃ c, hcodeL.getD k 0 = c := ⟨_, rfl⟩
      obtain ⟨L, hL⟩ : ∃ L, hlenL.getD k 0 = L := ⟨_, rfl⟩
      rw [hc] at hck hCb hb1
      rw [hL] at hlk hLb hCb hb1
      obtain ⟨tgt, htgt⟩ := Option.isSome_iff_exists.1 hb1
      have HC := Lib.hid hc; clear hc
      have HL := Lib.hid hL; clear hL
      have hk1 : (k : Int) < 256 := by omega
      have hix := fun w => idx131 cs k _ hlt hck w
      clear hHb hCc hb1
      go_upto_region 9 with (fail)
      go_loopw [5, 6] (InRel w k c L lv tgt) (fun a _ _ => (intOf a).toNat)
      case atStart => exact ⟨T, 0, L, 5, rfl, rfl, hT.pos, hT, htgt, hLb.2, by omega, rfl, kk⟩
      case round =>
        obtain ⟨T1, cur, cl, n, rfl, rfl, hcur, hT1, hgo, hcl1, hcl2, hrem, kk1⟩ := hrel
        obtain ⟨row, hrow⟩ : ∃ row, T1[cur]? = some row := ⟨_, List.getElem?_eq_getElem hcur⟩
        have hrl := hT1.rows cur row hrow
        have hnd := (hT1.nd cur hcur).cell 0 rfl
        cases n with
        | zero => simp [insGo] at hgo
        | succ n =>
        rw [insGo, hrow] at hgo
        simp only at hgo
        by_cases h8 : 8 < cl
        · rw [if_pos h8] at hgo
          have hsub : IntKind.u8.wrap ((cl : Int) - 8) = ((cl - 8 : Nat) : Int) := by
            rw [show (cl : Int) - 8 = ((cl - 8 : Nat) : Int) from by omega]; exact IntWalk.u8_in _ (by omega)
          obtain ⟨c2, hc2⟩ : ∃ c2, cl - 8 = c2 := ⟨_, rfl⟩
          rw [hc2] at hgo hsub
          obtain ⟨i, hii⟩ : ∃ i, c / 2 ^ c2 % 256 = i := ⟨_, rfl⟩
          rw [hii] at hgo
          have hi256 : i < 256 := by rw [← hii]; exact Nat.mod_lt _ (by decide)
          have hch := (hT1.ch cur row hrow).cell i (v := chV w.heap.size (row.getD i 1)) (by rw [List.getElem?_map, List.getD_eq_getElem?_getD, List.getElem?_eq_getElem (by omega)]; rfl)
          have b8 : decide ((8 : Int) < (cl : Int)) = true := by simp; omega
          have hi256' : (i : Int) < 256 := by omega
          have HII := Lib.hid hii; clear hii
          have HC2 := Lib.hid hc2
          go_upto_region 12 with (fail)
          have hidx : (c : Int) / 2 ^ c2 % 256 = (i : Int) := by
            rw [← HII.out, show (256 : Int) = ((256 : Nat) : Int) from rfl, show (2 : Int) = ((2 : Nat) : Int) from rfl, ← Int.natCast_pow, ← Int.natCast_ediv, ← Int.natCast_emod]
          rw [hidx]
          clear hidx
          have hrem2 : rem8 c2 = rem8 L := by rw [← hrem]; unfold rem8; omega
          have hc21 : 1 ≤ c2 ∧ c2 ≤ 30 := by omega
          by_cases hz : row.getD i 1 = 0
          · rw [hz] at hch
            rw [if_pos hz] at hgo
            have hch0 : wr.cell? ⟨cb w.heap.size cur, i, none⟩ = some (.pointer none) := hch
            have hne : cb w.heap.size cur ≠ nb w.heap.size cur := cb_ne_nb _ _ _
            clear hch
            go_upto_region 13 with (fail)
            go_cut [1, 2, 3, 4, 5, 6, 7, 15, 16] (fun s1 s2 s3 s4 s5 s6 s7 s15 s16 wx => s1 = .pointer (some ⟨w.heap.size + 1, 0, none⟩) ∧ s2 = .pointer (some ⟨w.heap.size + 1 + 1, 0, none⟩) ∧ s3 = .int .i64 k ∧ s4 = .int .u32 c ∧ s5 = .int .u8 c2 ∧ s6 = .pointer (some ⟨nb w.heap.size cur, 0, none⟩) ∧ s7 = .int .u8 i ∧ s15 = .agg cs.toArray ∧ s16 = .int .i64 k ∧ TreeRep wx w.heap.size (T1.set cur (row.set i (257 + T1.length)) ++ [z256]) lv ∧ Kept [] w wx)
            case first =>
              have hTd : TreeRep wr.drew w.heap.size T1 lv := ⟨hT1.size, hT1.pos, hT1.ch, hT1.nd, hT1.lf, hT1.rows⟩
              go_region_with ((go_at_call 76; refine (node_rep _ hTd).mono ?_; rintro e w5 ⟨rfl, hN, K5⟩; have hr5 : (T1 ++ [z256])[cur]? = some row := (by rw [List.getElem?_append_left hcur]; exact hrow); have n5 := (hN.nd cur (by simp; omega)).cell 0 rfl; have b5 := hN.ch cur row hr5; have f5 := b5.frozen i; have c5 := K5.cell hch0 (by simp)))
              all_goals
                go_wp2_with fail
                go_meet
                case rel =>
                  have hset := hN.setChild (n := 257 + T1.length) (i := i) hr5
                  rw [List.set_append_left _ _ hcur] at hset
                  have hcv : chV w.heap.size (257 + T1.length) = .pointer (some ⟨nb w.heap.size T1.length, 0, none⟩) := by unfold chV; rw [if_neg (by omega), if_neg (by omega), show 257 + T1.length - 257 = T1.length from by omega]
                  rw [hcv] at hset
                  refine ⟨rfl, rfl, rfl, rfl, rfl, rfl, rfl, rfl, rfl, hset, ?_⟩
                  exact (((kk1.drew).trans K5).step ((Kept.refl [cb w.heap.size cur] _).setCell (by simp) _) (by intro q hq; right; simp at hq; rw [hq]; unfold cb; split <;> omega))
            case rest =>
              obtain ⟨rfl, rfl, rfl, rfl, rfl, rfl, rfl, rfl, rfl, hS, kS⟩ := hcut
              have hcurS : cur < (T1.set cur (row.set i (257 + T1.length)) ++ [z256]).length := by simp; omega
              have hrS : (T1.set cur (row.set i (257 + T1.length)) ++ [z256])[cur]? = some (row.set i (257 + T1.length)) := by
                rw [List.getElem?_append_left (by simpa using hcur), List.getElem?_set_self hcur]
              have n6 := (hS.nd cur hcurS).cell 0 rfl
              have c6 := (hS.ch cur _ hrS).cell i (v := .pointer (some ⟨nb w.heap.size T1.length, 0, none⟩)) (by
                rw [List.getElem?_map, List.getElem?_set_self (by omega)]
                show some (chV w.heap.size (257 + T1.length)) = _
                unfold chV; rw [if_neg (by omega), if_neg (by omega), show 257 + T1.length - 257 = T1.length from by omega])
              have HG := Lib.hid hgo; clear hgo
              go_wp2_with fail
              refine ⟨⟨_, T1.length, c2, n, rfl, rfl, by simp, hS, HG.out, hc21.2, hc21.1, hrem2, kS⟩, ?_⟩
              simp [intOf]; omega
          · rw [if_neg hz] at hgo
            by_cases h257 : 257 ≤ row.getD i 1
            · rw [if_pos h257] at hgo
              have hv : chV w.heap.size (row.getD i 1) = .pointer (some ⟨nb w.heap.size (row.getD i 1 - 257), 0, none⟩) := by unfold chV; rw [if_neg hz, if_neg (by omega)]
              rw [hv] at hch
              obtain ⟨cur2, hcur2⟩ : ∃ cur2, row.getD i 1 - 257 = cur2 := ⟨_, rfl⟩
              rw [hcur2] at hch hgo
              have hlt2 : cur2 < T1.length := by
                cases n with
                | zero => simp [insGo] at hgo
                | succ n =>
                  cases hx : T1[cur2]? with
                  | none => rw [insGo, hx] at hgo; simp at hgo
                  | some r => exact (List.getElem?_eq_some_iff.1 hx).1
              have HG := Lib.hid hgo; clear hgo
              clear hv
              go_wp2_with fail
              refine ⟨⟨T1, cur2, c2, n, rfl, rfl, hlt2, hT1, HG.out, hc21.2, hc21.1, hrem2, kk1⟩, ?_⟩
              simp [intOf]; omega
            · rw [if_neg h257] at hgo; cases hgo
        · rw [if_neg h8] at hgo
          have hcl8 : cl ≤ 8 := by omega
          have hremc : rem8 cl = cl := by unfold rem8; omega
          obtain ⟨st0, hst0⟩ : ∃ st0, c * 2 ^ (8 - cl) % 256 = st0 := ⟨_, rfl⟩
          obtain ⟨nn, hnn⟩ : ∃ nn, 2 ^ (8 - cl) = nn := ⟨_, rfl⟩
          rw [hst0, hnn] at hgo
          have hn256 : st0 + nn ≤ 256 := by
            apply Decidable.byContradiction; intro hx; rw [if_neg hx] at hgo; cases hgo
          rw [if_pos hn256] at hgo
          have HGO := Lib.hid (Option.some.inj hgo); clear hgo
          have HST := Lib.hid hst0; clear hst0
          have HNN := Lib.hid hnn; clear hnn
          have b8 : decide ((8 : Int) < (cl : Int)) = false := by simp; omega
          have hsub : IntKind.u8.wrap ((8 : Int) - (cl : Int)) = ((8 - cl : Nat) : Int) := by
            rw [show (8 : Int) - (cl : Int) = ((8 - cl : Nat) : Int) from by omega]; exact IntWalk.u8_in _ (by omega)
          obtain ⟨sh, hsh⟩ : ∃ sh, 8 - cl = sh := ⟨_, rfl⟩
          rw [hsh] at hsub
          have hsh8 : sh ≤ 7 := by omega
          have HSH := Lib.hid hsh; clear hsh
          go_upto_region 17 with (fail)
          have e9 : (c : Int) * 2 ^ sh % 256 = (st0 : Int) := by
            rw [← HST.out, HSH.out, show (256 : Int) = ((256 : Nat) : Int) from rfl, show (2 : Int) = ((2 : Nat) : Int) from rfl, ← Int.natCast_pow, ← Int.natCast_mul, ← Int.natCast_emod]
          have e10 : wrap64 (2 ^ sh) = (nn : Int) := by
            have hp : (2 : Nat) ^ sh ≤ 2 ^ 7 := Nat.pow_le_pow_right (by omega) hsh8
            rw [← HNN.out, HSH.out, show (2 : Int) = ((2 : Nat) : Int) from rfl, ← Int.natCast_pow]
            exact wrap64_small _ hp
          have e11 : (c : Int) * 2 ^ sh % 4294967296 % 256 = (st0 : Int) := by rw [Int.emod_emod_of_dvd _ (by decide), e9]
          rw [e9, e10, e11]
          clear e9 e10 e11 hsub
          have hlf := hT1.lf
          have hl0 := hlv.len
          obtain ⟨x1, hx1⟩ : ∃ x1, lv[k * 3 + 1]? = some x1 := ⟨_, List.getElem?_eq_getElem (by omega)⟩
          obtain ⟨x2, hx2⟩ : ∃ x2, lv[k * 3 + 2]? = some x2 := ⟨_, List.getElem?_eq_getElem (by omega)⟩
          have l1 : wr.cell? ⟨w.heap.size + 1 + 1, k * 3 + 1, none⟩ = some x1 := hlf.cell _ hx1
          have l2 : wr.cell? ⟨w.heap.size + 1 + 1, k * 3 + 2, none⟩ = some x2 := hlf.cell _ hx2
          have f1 : wr.frozen? ⟨w.heap.size + 1 + 1, k * 3 + 1, none⟩ = false := hlf.frozen _
          have f2 : wr.frozen? ⟨w.heap.size + 1 + 1, k * 3 + 2, none⟩ = false := hlf.frozen _
          have hku : IntKind.u8.wrap (k : Int) = (k : Int) := IntWalk.u8_in _ (by omega)
          go_upto_region 19 with (fail)
          have hT2 := (hT1.setLeaf (k * 3 + 2) (.int .u8 k)).setLeaf (k * 3 + 1) (.int .u8 cl)
          have hk2 : Kept [] w ((wr.setCell ⟨w.heap.size + 2, k * 3 + 2, none⟩ (.int .u8 k)).setCell ⟨w.heap.size + 2, k * 3 + 1, none⟩ (.int .u8 cl)) :=
            (kk1.step ((Kept.refl [w.heap.size + 2] _).setCell (by simp) _) (by intro q hq; right; simp at hq; omega)).step ((Kept.refl [w.heap.size + 2] _).setCell (by simp) _) (by intro q hq; right; simp at hq; omega)
          have hlv2 : LvOk ((lv.set (k * 3 + 2) (.int .u8 k)).set (k * 3 + 1) (.int .u8 cl)) (k + 1) := lv_step hlv hlt (by rw [HL.out, ← hrem, hremc])
          generalize (lv.set (k * 3 + 2) (.int .u8 k)).set (k * 3 + 1) (.int .u8 cl) = lv2 at hT2 hlv2
          change TreeRep ((wr.setCell ⟨w.heap.size + 1 + 1, k * 3 + 2, none⟩ (.int .u8 k)).setCell ⟨w.heap.size + 1 + 1, k * 3 + 1, none⟩ (.int .u8 cl)) _ _ _ at hT2
          change Kept [] w ((wr.setCell ⟨w.heap.size + 1 + 1, k * 3 + 2, none⟩ (.int .u8 k)).setCell ⟨w.heap.size + 1 + 1, k * 3 + 1, none⟩ (.int .u8 cl)) at hk2
          clear l1 l2 f1 f2 hlf hnd
          generalize hw3 : World.setCell (World.setCell wr _ _) _ _ = w3 at hT2 hk2 ⊢
          have HW3 := Lib.hid hw3; clear hw3
          go_wp2_with fail
          go_loopw [11] (FillRel w k st0 nn T1 cur row lv2) (fun a _ => 512 - (intOf a).toNat)
          case atStart => exact ⟨0, Nat.zero_le _, rfl, by rw [show fillRow row st0 0 (k + 1) = row from rfl, set_same hrow]; exact hT2, hk2⟩
          case round =>
            obtain ⟨j, hj, rfl, hT3, hk3⟩ := hrel
            have hset : (T1.set cur (fillRow row st0 j (k + 1)))[cur]? = some (fillRow row st0 j (k + 1)) := List.getElem?_set_self hcur
            by_cases hjn : j < nn
            · have n3 := (hT3.nd cur (by simpa using hcur)).cell 0 rfl
              have hrl3 := hT3.rows cur _ hset
              have b3 := hT3.ch cur _ hset
              have f3 := b3.frozen (st0 + j)
              obtain ⟨y, hy⟩ : ∃ y, ((fillRow row st0 j (k + 1)).map (chV w.heap.size))[st0 + j]? = some y := ⟨_, List.getElem?_eq_getElem (by rw [List.length_map]; omega)⟩
              have c3 := b3.cell _ hy
              have t1 : (0 : Int) ≤ ((st0 + j : Nat) : Int) := by omega
              have t2 : ((st0 + j : Nat) : Int) < 256 := by omega
              have t3 : decide (((st0 + j : Nat) : Int) < (st0 : Int) + (nn : Int)) = true := by simp; omega
              obtain ⟨q, hq⟩ : ∃ q, st0 + j = q := ⟨_, rfl⟩
              rw [hq] at f3 c3 t1 t2 t3 ⊢
              have HQ := Lib.hid hq; clear hq
              go_wp2_with fail
              go_region_with fail
              all_goals
                have h9 := hT3.setChild (n := k + 1) (i := q) hset
                rw [List.set_set, ← HQ.out, ← fill_step, HQ.out] at h9
                have hcv : chV w.heap.size (k + 1) = .pointer (some ⟨w.heap.size + 1 + 1, k * 3, none⟩) := by unfold chV; rw [if_neg (by omega), if_pos (by omega)]; rfl
                rw [hcv] at h9
                have k9 : Kept [] w (wr.setCell ⟨cb w.heap.size cur, q, none⟩ (.pointer (some ⟨w.heap.size + 1 + 1, k * 3, none⟩))) := hk3.step ((Kept.refl [cb w.heap.size cur] _).setCell (by simp) _) (by intro x hx; right; simp at hx; rw [hx]; unfold cb; split <;> omega)
                have H9 := Lib.hid h9
                have HK9 := Lib.hid k9
                clear h9 k9 hcv
                go_wp2_with fail
                refine ⟨?_, ?_⟩
                · exact ⟨j + 1, by omega, by rw [show st0 + (j + 1) = q + 1 from by rw [← HQ.out]; omega]; go_num, ⟨H9.out.size, H9.out.pos, H9.out.ch, H9.out.nd, H9.out.lf, H9.out.rows⟩, HK9.out.drew⟩
                · simp [intOf]; omega
            · have hjn2 : j = nn := by omega
              subst hjn2
              have t3 : decide (((st0 + j : Nat) : Int) < (st0 : Int) + (j : Int)) = false := by simp
              have hb2 : build (k + 1) = some tgt := by
                rw [build, hb, Option.bind_some, HC.out, HL.out]; exact htgt
              have HB2 := Lib.hid hb2; clear hb2
              rw [HGO.out] at hT3
              go_wp2_with fail
              refine ⟨⟨k + 1, tgt, lv2, by omega, by go_num, HB2.out, hT3, hlv2, hk3⟩, by simp [intOf]; omega⟩
    · have hk256 : k = 256 := by omega
      subst hk256
      rw [build_eq] at hb
      obtain rfl := Option.some.inj hb
      have HT := Lib.hid hT; clear hT
      clear hb
      go_wp2_with fail
      go_ret
      exact ⟨lv, rfl, HT.out, hlv, kk⟩
end Go.Proofs.YtoceghdnipjkfaaDoor
