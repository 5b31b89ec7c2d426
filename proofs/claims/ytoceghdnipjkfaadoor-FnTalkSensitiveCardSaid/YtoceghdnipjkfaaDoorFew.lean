/-
  few: its answer true bounds the parts.
-/
import Derived.Test.YtoceghdnipjkfaaDoorGuard
namespace Go.Proofs.YtoceghdnipjkfaaDoor
open Go.RowKit
attribute [local irreducible] st

def FewRet (w : World) (ps : List PartD) (e : Ending) (w' : World) : Prop := ∃ b, e = .returned (.bool b) ∧ Kept [] w w' ∧ (b = true → AllOk ps)
def FwRel (w : World) (ps : List PartD) (n a : Value) (wr : World) : Prop :=
  ∃ k N : Nat, k ≤ ps.length ∧ n = .int .i64 (N : Nat) ∧ a = .int .i64 (k : Nat) ∧ N = ps.length + pcost (ps.take k) ∧ N ≤ 9223372036854775807 ∧ (∀ p ∈ ps.take k, POk p) ∧ Kept [] w wr
def FwIn (w : World) (N0 : Nat) (l : List Fld) (n a : Value) (wr : World) : Prop :=
  ∃ j N : Nat, j ≤ l.length ∧ n = .int .i64 (N : Nat) ∧ a = .int .i64 (j : Nat) ∧ N = N0 + fcost (l.take j) ∧ N ≤ 4000000 ∧ Kept [] w wr
theorem pcost_take {ps : List PartD} {k : Nat} {p : PartD} (h : ps[k]? = some p) : pcost (ps.take (k + 1)) = pcost (ps.take k) + fcost p.flds := by
  simp [List.take_add_one, h, pcost]
theorem fcost_take {l : List Fld} {k : Nat} {f : Fld} (h : l[k]? = some f) : fcost (l.take (k + 1)) = fcost (l.take k) + (1 + f.name.size + f.value.size) := by
  simp [List.take_add_one, h, fcost]
theorem pok_take {ps : List PartD} {k : Nat} {p : PartD} (h : ps[k]? = some p) (hp : POk p) (ho : ∀ q ∈ ps.take k, POk q) : ∀ q ∈ ps.take (k + 1), POk q := by
  intro q hq
  simp [List.take_add_one, h] at hq
  rcases hq with hq | rfl
  · exact ho q hq
  · exact hp
set_option maxRecDepth 100000 in
set_option maxHeartbeats 1000000 in
theorem few_any (v : Value) (ps : List PartD) (w : World) (hv : PartsAt w v ps) (hl : PsOk ps) : Calls Tryd.prog 12 #[v] w (FewRet w ps) := by
  obtain ⟨p, c, rfl, hc⟩ := hv
  obtain ⟨hn, hz, hm⟩ := hl
  have HC := Lib.hid hc; clear hc
  have HM := Lib.hid hm; clear hm
  have HZ := Lib.hid hz; clear hz
  go_enter Tryd.func12, Tryd.ntmps12
  go_wp2_with fail
  go_loopw [3, 12] (FwRel w ps) (fun _ i _ => ps.length - (intOf i).toNat)
  case atStart => exact ⟨0, ps.length, Nat.zero_le _, rfl, rfl, rfl, hn, by simp, Kept.refl _ _⟩
  case round =>
    obtain ⟨k, N, hk, rfl, rfl, hN, hN2, hok, K⟩ := hrel
    have HOK := Lib.hid hok; clear hok
    have HN := Lib.hid hN; clear hN
    by_cases hlt : k < ps.length
    · have hget : ps[k]? = some ps[k] := List.getElem?_eq_getElem hlt
      have hmem : ps[k] ∈ ps := List.getElem_mem hlt
      generalize ps[k] = q at hget hmem
      have hfo := Lib.hid (HM.out q hmem)
      obtain ⟨z1, z2⟩ := HZ.out q hmem
      obtain ⟨b1, o1, fv, hp1, q0, q1, q2⟩ := HC.out _ _ hget
      obtain ⟨fp, fcp, hfv, hfc⟩ := q2
      subst hfv
      have HF := Lib.hid hfc; clear hfc
      subst hp1
      replace q0 := K.cell q0 (by simp)
      replace q1 := K.cell q1 (by simp)
      have t1 : (0 : Int) ≤ (k : Int) := by omega
      have t2 : (k : Int) < (ps.length : Int) := by omega
      have HG := Lib.hid hget; clear hget
      clear hmem
      by_cases g1 : 1048576 < N
      · have e1 : decide ((1048576 : Int) < (N : Int)) = true := by simp; omega
        go_wp2_with fail
        go_ret
        exact ⟨_, rfl, K.alloc _, by simp⟩
      have e1 : decide ((1048576 : Int) < (N : Int)) = false := by simp; omega
      by_cases g2 : 4294967296 ≤ q.size
      · have e2 : decide ((4294967296 : Int) ≤ q.size) = true := by simp; omega
        go_wp2_with fail
        go_ret
        exact ⟨_, rfl, K.alloc _, by simp⟩
      have e2 : decide ((4294967296 : Int) ≤ q.size) = false := by simp; omega
      by_cases g3 : q.flds.length = 0
      · have e3 : decide ((q.flds.length : Int) = 0) = true := decide_eq_true (by omega)
        go_wp2_with fail
        go_ret
        exact ⟨_, rfl, K.alloc _, by simp⟩
      have e3 : decide ((q.flds.length : Int) = 0) = false := decide_eq_false (by omega)
      have hpo : POk q := ⟨fun h => g3 (by rw [h]; rfl), by omega⟩
      have HPO := Lib.hid hpo; clear hpo
      go_wp2_with fail
      go_loopw [3, 32] (FwIn w N q.flds) (fun _ i _ => q.flds.length - (intOf i).toNat)
      case atStart => exact ⟨0, N, Nat.zero_le _, rfl, rfl, by simp [fcost], by omega, K.alloc _⟩
      case round =>
        clear e1 e2 e3 g3 z1 z2 q0 q1 hN2
        obtain ⟨j, M, hj, rfl, rfl, hM, hM2, K2⟩ := hrel
        have HMM := Lib.hid hM; clear hM
        have hfl := hfo.out.1
        by_cases hjl : j < q.flds.length
        · have hget : q.flds[j]? = some q.flds[j] := List.getElem?_eq_getElem hjl
          have hmem : q.flds[j] ∈ q.flds := List.getElem_mem hjl
          generalize q.flds[j] = f at hget hmem
          obtain ⟨h1, h2⟩ := hfo.out.2 f hmem
          obtain ⟨b2, o2, hp2, r0, r1, r2⟩ := HF.out _ _ hget
          subst hp2
          replace r0 := K2.cell r0 (by simp)
          replace r1 := K2.cell r1 (by simp)
          replace r2 := K2.cell r2 (by simp)
          have t3 : (0 : Int) ≤ (j : Int) := by omega
          have t4 : (j : Int) < (q.flds.length : Int) := by omega
          have HGF := Lib.hid hget; clear hget
          clear hmem
          by_cases g4 : 1048576 < M
          · have e1 : decide ((1048576 : Int) < (M : Int)) = true := decide_eq_true (by omega)
            go_wp2_with fail
            go_ret
            exact ⟨_, rfl, K2.alloc _, by simp⟩
          have e1 : decide ((1048576 : Int) < (M : Int)) = false := decide_eq_false (by omega)
          by_cases g5 : 1048576 < f.name.size
          · have e2 : decide ((1048576 : Int) < (f.name.size : Int)) = true := decide_eq_true (by omega)
            go_wp2_with fail
            go_ret
            exact ⟨_, rfl, K2.alloc _, by simp⟩
          have e2 : decide ((1048576 : Int) < (f.name.size : Int)) = false := decide_eq_false (by omega)
          by_cases g6 : 1048576 < f.value.size
          · have e3 : decide ((1048576 : Int) < (f.value.size : Int)) = true := decide_eq_true (by omega)
            go_wp2_with fail
            go_ret
            exact ⟨_, rfl, K2.alloc _, by simp⟩
          have e3 : decide ((1048576 : Int) < (f.value.size : Int)) = false := decide_eq_false (by omega)
          go_wp2_with fail
          refine ⟨⟨j + 1, M + (1 + f.name.size + f.value.size), by omega, by go_num, by go_num, ?_, by omega, K2.alloc _⟩, by simp [intOf]; omega⟩
          rw [fcost_take HGF.out, HMM.out]; omega
        · have hjj : j = q.flds.length := by omega
          subst hjj
          have h9 := HMM.out
          rw [List.take_length] at h9
          go_wp2_with fail
          refine ⟨⟨k + 1, M, by omega, by go_num, by go_num, ?_, by omega, pok_take HG.out HPO.out HOK.out, K2⟩, by simp [intOf]; omega⟩
          rw [pcost_take HG.out, h9, HN.out]; omega
    · have hkk : k = ps.length := by omega
      have h9 := HN.out
      have h8 := HOK.out
      rw [hkk, List.take_length] at h9 h8
      go_wp2_with fail
      go_ret
      refine ⟨_, rfl, K, fun h => ⟨h8, ?_, ?_⟩⟩
      · simp at h; omega
      · simp at h; omega
end Go.Proofs.YtoceghdnipjkfaaDoor
