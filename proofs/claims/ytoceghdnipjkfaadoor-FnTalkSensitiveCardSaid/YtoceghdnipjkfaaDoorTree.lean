/-
  The tree by which Huffman codes are read: newInternalNode, getRootHuffmanNode.
-/
import Derived.Test.YtoceghdnipjkfaaDoorTrie
import Derived.Test.YtoceghdnipjkfaaDoorTab
import Derived.Laws.Rows
namespace Go.Proofs.YtoceghdnipjkfaaDoor
open Go.RowKit

def nils : List Value := List.replicate 256 (.pointer none)
theorem zc145 : Tryd.zeroCells145 = nils.toArray := by kernel_rfl
set_option maxRecDepth 100000 in
set_option maxHeartbeats 1000000 in
theorem node_new (w : World) : Calls Tryd.prog 76 #[] w fun e w' => e = .returned (.pointer (some ⟨w.heap.size + 1, 0, none⟩)) ∧
    w' = (w.alloc (.cells nils.toArray 145)).alloc (.cells [.pointer (some ⟨w.heap.size, 0, none⟩), .int .u8 0, .int .u8 0].toArray 141) := by
  go_enter Tryd.func76, Tryd.ntmps76
  go_wp2_with fail
  go_ret
  exact ⟨rfl, by rw [zc145]⟩

/-- where node k's children lie, where the node -/
def cb (H k : Nat) : Nat := if k = 0 then H else H + 1 + 2 * k
def nb (H k : Nat) : Nat := cb H k + 1
/-- a child as a value -/
def chV (H n : Nat) : Value := if n = 0 then .pointer none else if n ≤ 256 then .pointer (some ⟨H + 2, (n - 1) * 3, none⟩) else .pointer (some ⟨nb H (n - 257), 0, none⟩)
structure TreeRep (w : World) (H : Nat) (T : Trie) (lv : List Value) : Prop where
  size : w.heap.size = H + 1 + 2 * T.length
  pos : 0 < T.length
  ch : ∀ (i : Nat) (row : List Nat), T[i]? = some row → Blk w (cb H i) (row.map (chV H)) 145
  nd : ∀ i, i < T.length → Blk w (nb H i) [.pointer (some ⟨cb H i, 0, none⟩), .int .u8 0, .int .u8 0] 141
  lf : Blk w (H + 2) lv 144
  rows : ∀ (i : Nat) (row : List Nat), T[i]? = some row → row.length = 256
theorem cb_inj {H i j : Nat} (h : cb H i = cb H j) : i = j := by unfold cb at h; split at h <;> split at h <;> omega
theorem cb_ne_nb (H i j : Nat) : cb H i ≠ nb H j := by unfold nb cb; split <;> split <;> omega
theorem cb_ne_lf (H i : Nat) : cb H i ≠ H + 2 := by unfold cb; split <;> omega
theorem nb_ne_lf (H i : Nat) : nb H i ≠ H + 2 := by unfold nb cb; split <;> omega
theorem nb_inj {H i j : Nat} (h : nb H i = nb H j) : i = j := cb_inj (H := H) (by unfold nb at h; omega)
section
variable {w : World} {H : Nat} {T : Trie} {lv : List Value}
theorem TreeRep.setChild (h : TreeRep w H T lv) {c i n : Nat} {row : List Nat} (hr : T[c]? = some row) : TreeRep (w.setCell ⟨cb H c, i, none⟩ (chV H n)) H (T.set c (row.set i n)) lv where
  size := by simpa using h.size
  pos := by simpa using h.pos
  ch := fun j r hj => by
    rw [List.getElem?_set] at hj
    by_cases e : c = j
    · subst e
      have hc : c < T.length := (List.getElem?_eq_some_iff.1 hr).1
      simp [hc] at hj
      subst hj
      have := (h.ch c row hr).set i (chV H n)
      rwa [← List.map_set] at this
    · rw [if_neg e] at hj
      exact (h.ch j r hj).setOther _ (fun e' => e (cb_inj e'.symm)) _
  nd := fun j hj => (h.nd j (by simpa using hj)).setOther _ (fun e' => cb_ne_nb H c j e'.symm) _
  lf := h.lf.setOther _ (fun e' => cb_ne_lf H c e'.symm) _
  rows := fun j r hj => by
    rw [List.getElem?_set] at hj
    by_cases e : c = j
    · subst e
      have hc : c < T.length := (List.getElem?_eq_some_iff.1 hr).1
      simp [hc] at hj
      subst hj
      simpa using h.rows c row hr
    · rw [if_neg e] at hj; exact h.rows j r hj
theorem TreeRep.setLeaf (h : TreeRep w H T lv) (i : Nat) (v : Value) : TreeRep (w.setCell ⟨H + 2, i, none⟩ v) H T (lv.set i v) where
  size := by simpa using h.size
  pos := h.pos
  ch := fun j r hj => (h.ch j r hj).setOther _ (cb_ne_lf H j) _
  nd := fun j hj => (h.nd j hj).setOther _ (nb_ne_lf H j) _
  lf := h.lf.set i v
  rows := h.rows
theorem nils_map (H : Nat) : z256.map (chV H) = nils := by
  unfold z256 nils; rw [List.map_replicate]; rfl
theorem TreeRep.newNode (h : TreeRep w H T lv) : TreeRep ((w.alloc (.cells nils.toArray 145)).alloc (.cells [.pointer (some ⟨w.heap.size, 0, none⟩), .int .u8 0, .int .u8 0].toArray 141)) H (T ++ [z256]) lv where
  size := by simp [h.size]; omega
  pos := by simp
  ch := fun j r hj => by
    have hs := h.size
    by_cases e : j < T.length
    · rw [List.getElem?_append_left e] at hj
      exact ((h.ch j r hj).alloc _).alloc _
    · rw [List.getElem?_append_right (by omega)] at hj
      have e2 : j = T.length := by
        have := (List.getElem?_eq_some_iff.1 hj).1
        simp at this; omega
      subst e2
      simp at hj; subst hj
      rw [nils_map, show cb H T.length = w.heap.size from by unfold cb; rw [if_neg (by have := h.pos; omega), hs]]
      exact (Blk.new w nils 145).alloc _
  nd := fun j hj => by
    have hs := h.size
    by_cases e : j < T.length
    · exact ((h.nd j e).alloc _).alloc _
    · have e2 : j = T.length := by simp at hj; omega
      subst e2
      have e3 : cb H T.length = w.heap.size := by unfold cb; rw [if_neg (by have := h.pos; omega), hs]
      have e4 : nb H T.length = (w.alloc (.cells nils.toArray 145)).heap.size := by unfold nb; rw [e3]; simp
      rw [e4, e3]
      exact Blk.new _ _ 141
  lf := (h.lf.alloc _).alloc _
  rows := fun j r hj => by
    by_cases e : j < T.length
    · rw [List.getElem?_append_left e] at hj; exact h.rows j r hj
    · rw [List.getElem?_append_right (by omega)] at hj
      have := List.mem_of_getElem? hj
      simp at this; subst this; exact List.length_replicate
end
end Go.Proofs.YtoceghdnipjkfaaDoor
