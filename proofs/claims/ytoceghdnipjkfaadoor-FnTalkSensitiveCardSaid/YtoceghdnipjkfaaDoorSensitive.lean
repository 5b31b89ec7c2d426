/-
  FnTalkSensitive: what stands in a table was sent, and not as sensitive.
-/
import Derived.Test.YtoceghdnipjkfaaDoorBound
namespace Go.Proofs.YtoceghdnipjkfaaDoor
open Go.RowKit
attribute [local irreducible] st

theorem tabAll_mem {mx : Nat} {g : Fld} : ∀ (l : List Fld) (T : Tab), g ∈ (tabAll mx l T).ents → g ∈ T.ents ∨ (g ∈ l ∧ g.sens = false)
  | [], T, h => .inl h
  | f :: r, T, h => by
    rcases tabAll_mem r (nextTab f T mx) h with h | ⟨h, hs⟩
    · rcases nextTab_mem h with h | ⟨rfl, hs⟩
      · exact .inl h
      · exact .inr ⟨by simp, hs⟩
    · exact .inr ⟨by simp [h], hs⟩
theorem tabOf_mem {mx : Nat} {T : Tab} {p : PartD} {g : Fld} (h : g ∈ (tabOf mx T p).ents) : g ∈ T.ents := by
  unfold tabOf at h
  split at h
  · exact List.mem_of_mem_drop h
  · exact h
theorem say_mem {mx : Nat} {T : Tab} {p : PartD} {g : Fld} (h : g ∈ (sayOne T mx p).tab.ents) : g ∈ T.ents ∨ (g ∈ p.flds ∧ g.sens = false) := by
  rcases tabAll_mem _ _ h with h | h
  · exact .inl (tabOf_mem h)
  · exact .inr h
theorem stOf_mem {g : Fld} : ∀ (ps : List PartD) (T : Tab) (mx : Nat), g ∈ (stOf T mx ps).1.ents → g ∈ T.ents ∨ (∃ p ∈ ps, g ∈ p.flds) ∧ g.sens = false
  | [], T, mx, h => .inl h
  | p :: r, T, mx, h => by
    rcases stOf_mem r _ _ h with h | ⟨⟨q, hq, hg⟩, hs⟩
    · rcases say_mem h with h | ⟨h, hs⟩
      · exact .inl h
      · exact .inr ⟨⟨p, by simp, h⟩, hs⟩
    · exact .inr ⟨⟨q, by simp [hq], hg⟩, hs⟩
theorem said_mem {ps : List PartD} {k : Nat} {q : PartD} {s : SaidD} (hq : ps[k]? = some q) (hs : (talk ps)[k]? = some s) {g : Fld} (hg : g ∈ s.tab.ents) : (∃ p ∈ ps.take (k + 1), g ∈ p.flds) ∧ g.sens = false := by
  have h1 := talkFrom_at ps ⟨[], 0⟩ 4096 k q hq
  have h2 := stOf_snoc (ps.take k) q ⟨[], 0⟩ 4096
  have ht : ps.take (k + 1) = ps.take k ++ [q] := by simp [List.take_add_one, hq]
  rw [← ht] at h2
  unfold talk at hs
  rw [hs] at h1
  cases h1
  have h3 : g ∈ (stOf ⟨[], 0⟩ 4096 (ps.take (k + 1))).1.ents := by rw [h2]; exact hg
  rcases stOf_mem _ _ _ h3 with h | h
  · simp at h
  · exact h

/-- the map holds all that was sent openly in these fields -/
def Cov (l : List Fld) (al : List ((ByteArray × ByteArray) × Value)) : Prop := ∀ f ∈ l, f.sens = false → aget al (f.name, f.value) = some (.bool true)
def allF (ps : List PartD) : List Fld := ps.flatMap (·.flds)
theorem Cov.put {l : List Fld} {al : List ((ByteArray × ByteArray) × Value)} (h : Cov l al) (f : Fld) : Cov (l ++ [f]) (aput al (f.name, f.value) (.bool true)) := by
  intro g hg hs
  rw [aget_aput]
  split
  · rfl
  · rename_i hne
    simp at hg
    rcases hg with hg | rfl
    · exact h g hg hs
    · exact absurd rfl hne
theorem Cov.skip {l : List Fld} {al : List ((ByteArray × ByteArray) × Value)} (h : Cov l al) {f : Fld} (hs : f.sens = true) : Cov (l ++ [f]) al := by
  intro g hg hg2
  simp at hg
  rcases hg with hg | rfl
  · exact h g hg hg2
  · rw [hs] at hg2; cases hg2
theorem take_snoc {α : Type} {l : List α} {k : Nat} {a : α} (h : l[k]? = some a) : l.take (k + 1) = l.take k ++ [a] := by simp [List.take_add_one, h]
theorem zero4 (w : World) : (zeroValue 4).run Tryd.prog w = .ok (.bool false) w := by kernel_rfl
def SiRel (w : World) (R : List Fld) (a : Value) (wr : World) : Prop := ∃ k : Nat, k ≤ R.length ∧ a = .int .i64 (k : Nat) ∧ Kept [] w wr
def SnRel (w : World) (m : Nat) (ps : List PartD) (a : Value) (wr : World) : Prop :=
  ∃ k al, k ≤ ps.length ∧ a = .int .i64 (k : Nat) ∧ AMap kP wr m al ∧ Cov (allF (ps.take k)) al ∧ Kept [] w wr
def SfRel (w : World) (m : Nat) (l0 l : List Fld) (a : Value) (wr : World) : Prop :=
  ∃ j al, j ≤ l.length ∧ a = .int .i64 (j : Nat) ∧ AMap kP wr m al ∧ Cov (l0 ++ l.take j) al ∧ Kept [] w wr
set_option maxRecDepth 100000 in
set_option maxHeartbeats 4000000 in
theorem sens_any (v : Value) (ps : List PartD) (w : World) (hv : PartsAt w v ps) (hl : PsOk ps) (hg : Glob w) (he : ErrAt w) : Calls Tryd.prog 6 #[v] w (RetTrue w) := by
  have HV : Hid (∀ w', Kept [] w w' → PartsAt w' v ps) := fun w' k => hv.kept k
  have HL := Lib.hid hl; clear hl
  have HG := Lib.hid hg; clear hg
  have HE := Lib.hid he; clear he
  obtain ⟨p, c, rfl, hc⟩ := hv
  have HC := Lib.hid hc; clear hc
  have hmm := @run_makeMap Tryd.prog
  go_enter Tryd.func6, Tryd.ntmps6
  go_wp2_with (first
    | (go_at_call 11; refine (fits1_any _ ps _ (HV.out _ (Kept.refl _ _)) HL.out).mono ?_; rintro e w1 ⟨b1, rfl, K1⟩)
    | (go_at_call 12; refine (few_any _ ps _ (HV.out _ K1) HL.out).mono ?_; rintro e w2 ⟨b2, rfl, K2, hall⟩; replace K2 := K1.trans K2; replace hall := Lib.hid hall)
    | (go_at_call 9; refine (talk_any _ ps _ (HV.out _ K2) (HG.out.kept K2 (by simp) (by simp)) (HE.out.kept K2 (by simp)) (hall.out (by simpa using ‹(!b2) = false›))).mono ?_; rintro e w3 ⟨v3, xs, rfl, K3, own3, S3⟩; obtain ⟨p3, c3, hv3, hA⟩ := saids_at own3 S3; rw [talk_len] at hv3; subst hv3; replace hA := Lib.hid hA; replace K3 := K2.trans K3; clear own3 S3))
  · go_ret
    exact ⟨rfl, K1⟩
  · go_ret
    exact ⟨rfl, K2⟩
  have hAll := Lib.hid (hall.out (by simpa using ‹(!b2) = false›))
  have hpl := hAll.out.len
  clear HL hall K1
  generalize hw4 : w3.alloc _ = w4
  have hA4 : AMap kP w4 w3.heap.size [] := by rw [← hw4]; exact AMap.new (kv := kP) w3
  have k4 : Kept [] w3 w4 := by rw [← hw4]; exact (Kept.refl [] w3).alloc _
  have hml : w3.heap.size ≤ w3.heap.size := Nat.le_refl _
  generalize hm : w3.heap.size = m at hA4 hml ⊢
  replace hml : w3.heap.size ≤ m := by omega
  have HW4 := Lib.hid hw4; clear hw4
  have HM := Lib.hid hm; clear hm
  clear hmm
  go_loopw [29] (SnRel w3 m ps) (fun i _ => ps.length - (intOf i).toNat)
  case atStart => exact ⟨0, [], Nat.zero_le _, rfl, hA4, by intro f hf; simp [allF] at hf, k4⟩
  case round =>
    obtain ⟨k, al, hk, rfl, A0, C0, K⟩ := hrel
    have HC0 := Lib.hid C0; clear C0
    by_cases hlt : k < ps.length
    · have hget : ps[k]? = some ps[k] := List.getElem?_eq_getElem hlt
      have hmem : ps[k] ∈ ps := List.getElem_mem hlt
      generalize ps[k] = q at hget hmem
      have hfl := flds_small hAll.out hmem
      clear hmem
      obtain ⟨b0, o0, fv, hp0, q0, q1, q2⟩ := HC.out _ _ hget
      subst hp0
      obtain ⟨fp, fcp, hfv, hfc⟩ := q2
      subst hfv
      have HF := Lib.hid hfc; clear hfc
      replace q0 := (K3.trans K).cell q0 (by simp)
      replace q1 := (K3.trans K).cell q1 (by simp)
      have t1 : (0 : Int) ≤ (k : Int) := by omega
      have t2 : (k : Int) < (ps.length : Int) := by omega
      have HGT := Lib.hid hget; clear hget
      go_upto_region 12 with (fail)
      generalize hw5 : wr.alloc _ = w5
      obtain ⟨k5, Y5, hy5⟩ := box_cells (l := [.int .i64 q.size, .slice fp q.flds.length fcp]) hw5
      generalize hxe : wr.heap.size = xb at Y5 hy5 ⊢
      have HW5 := Lib.hid hw5; clear hw5
      have HX := Lib.hid hxe; clear hxe
      clear q0 q1
      have y1 := Y5.cell 1 rfl
      have A5 := A0.kept k5 (by simp)
      go_upto_region 13 with (fail)
      clear y1
      have K5 := K.trans k5
      go_loopw [37] (SfRel w3 m (allF (ps.take k)) q.flds) (fun i _ => q.flds.length - (intOf i).toNat)
      case atStart => exact ⟨0, al, Nat.zero_le _, rfl, A5, by simpa using HC0.out, K5⟩
      case round =>
        obtain ⟨j, al2, hj, rfl, A6, C6, K6⟩ := hrel
        have HC6 := Lib.hid C6; clear C6
        by_cases hjl : j < q.flds.length
        · have hget : q.flds[j]? = some q.flds[j] := List.getElem?_eq_getElem hjl
          generalize q.flds[j] = f at hget
          obtain ⟨fb, fo, hfp, r0, r1, r2⟩ := HF.out _ _ hget
          subst hfp
          replace r0 := (K3.trans K6).cell r0 (by simp)
          replace r1 := (K3.trans K6).cell r1 (by simp)
          replace r2 := (K3.trans K6).cell r2 (by simp)
          have t3 : (0 : Int) ≤ (j : Int) := by omega
          have t4 : (j : Int) < (q.flds.length : Int) := by omega
          have HTS := Lib.hid (take_snoc hget)
          clear hget
          cases hse : f.sens
          · rw [hse] at r2
            go_upto_region 16 with (fail)
            have HSE := Lib.hid hse; clear hse
            generalize hw6 : wr.alloc _ = w6
            obtain ⟨k6, X6, hy6⟩ := box_cells (l := [.string f.name, .string f.value, .bool false]) hw6
            generalize hze : wr.heap.size = zb at X6 hy6 ⊢
            have HW6 := Lib.hid hw6; clear hw6
            have HZ := Lib.hid hze; clear hze
            clear r0 r1 r2
            have x0 := X6.cell 0 rfl
            have x1 := X6.cell 1 rfl
            obtain ⟨w7, hr, A8, k7⟩ := run_update_a (P := Tryd.prog) (w := w6) keyA Tryd.underlying39 (A6.kept k6 (by simp)) (f.name, f.value) (.bool true)
            change (Instr.mapUpdate 39 (.map (some m)) (.agg #[.string f.name, .string f.value]) (.bool true)).run Tryd.prog w6 = .ok () w7 at hr
            go_wp2_with fail
            refine ⟨⟨j + 1, _, by omega, by go_num, A8, ?_, (K6.trans k6).step k7 (by intro b hb; simp at hb; subst hb; exact .inr hml)⟩, by simp [intOf]; omega⟩
            rw [HTS.out, ← List.append_assoc]; exact HC6.out.put f
          · rw [hse] at r2
            have HSE := Lib.hid hse; clear hse
            go_wp2_with fail
            refine ⟨⟨j + 1, al2, by omega, by go_num, A6.kept ((Kept.refl [] _).alloc _) (by simp), ?_, K6.alloc _⟩, by simp [intOf]; omega⟩
            rw [HTS.out, ← List.append_assoc]; exact HC6.out.skip HSE.out
        · have hjj : j = q.flds.length := by omega
          subst hjj
          have C7 := HC6.out
          rw [List.take_length] at C7
          have CK0 : Cov (allF (ps.take (k + 1))) al2 := by
            rw [take_snoc HGT.out]
            simpa [allF] using C7
          have CK := Lib.hid CK0
          clear C7 CK0
          obtain ⟨s, hs1, hs2, hs3, hs4, hs5, hs6⟩ := talk_at hAll.out HGT.out
          obtain ⟨g, o, sbv, sfv, sev, sdv, hp1, A⟩ := hA.out k s hs1
          subst hp1
          have hmm : Hid (∀ f ∈ s.tab.ents.reverse, f.sens = false ∧ aget al2 (f.name, f.value) = some (.bool true)) := by
            intro f hf
            obtain ⟨⟨p', hp', hfp⟩, hsf⟩ := said_mem HGT.out hs1 (List.mem_reverse.1 hf)
            exact ⟨hsf, CK.out f (by simp only [allF, List.mem_flatMap]; exact ⟨p', hp', hfp⟩) hsf⟩
          have hR6 : s.tab.ents.reverse.length ≤ 4000000 := by rw [List.length_reverse]; exact hs6
          clear hs1 hs2 hs3 hs4 hs5 hs6
          replace A := A.kept K6
          have fe := A.e
          have fd := A.d
          obtain ⟨gp, gcp, hgv, _⟩ := A.e
          obtain ⟨hp, hcp, hhv, _⟩ := A.d
          subst hgv; subst hhv
          have c3 := A.c3
          have c4 := A.c4
          have c5 := A.c5
          have c6 := A.c6
          have c7 := A.c7
          have c8 := A.c8
          clear A
          generalize s.tab.ents.reverse = R at fe fd c3 c6 hmm hR6
          generalize s.mx = mx at c5 c8
          generalize tsz s.tab.ents = tz at c4 c7
          have FE := Lib.hid fe; clear fe
          have FD := Lib.hid fd; clear fd
          go_upto_region 18 with (fail)
          go_region_held3 (fun w' => w'.cell? ⟨g, o + k * 9 + 3, none⟩ = some (.slice gp R.length gcp) ∧ w'.cell? ⟨g, o + k * 9 + 4, none⟩ = some (.int .i64 (tz : Nat)) ∧ w'.cell? ⟨g, o + k * 9 + 5, none⟩ = some (.int .i64 (mx : Nat)) ∧ w'.cell? ⟨g, o + k * 9 + 6, none⟩ = some (.slice hp R.length hcp) ∧ w'.cell? ⟨g, o + k * 9 + 7, none⟩ = some (.int .i64 (tz : Nat)) ∧ w'.cell? ⟨g, o + k * 9 + 8, none⟩ = some (.int .i64 (mx : Nat))) (first | go_keep) (fail)
          clear c3 c4 c5 c6 c7 c8
          go_upto_region 19 with (fail)
          generalize hw8 : wr.alloc _ = w8
          obtain ⟨k8, Z8, hz8⟩ := box_cells (l := [.slice gp R.length gcp, .int .i64 (tz : Nat), .int .i64 (mx : Nat), .slice hp R.length hcp, .int .i64 (tz : Nat), .int .i64 (mx : Nat)]) hw8
          generalize hye : wr.heap.size = yb at Z8 hz8 ⊢
          have HW8 := Lib.hid hw8; clear hw8
          have HY := Lib.hid hye; clear hye
          have TWO : Hid (TwoAt w8 yb R tz mx (.slice gp R.length gcp) (.slice hp R.length hcp)) := ⟨Z8, FE.out.kept k8, FD.out.kept k8⟩
          have A8 := A6.kept k8 (by simp)
          go_loopw [63] (BjRel w8) (fun i _ => 2 - (intOf i).toNat)
          case atStart => exact ⟨0, Nat.zero_le _, rfl, (Kept.refl _ _).drew⟩
          case round =>
            obtain ⟨j, hj, rfl, K9⟩ := hrel
            by_cases hjl : j < 2
            · obtain ⟨xv, fx, z0, z1, z2⟩ := TWO.out.get hjl
              obtain ⟨xp, xcp, hxv, hxc⟩ := id fx
              subst hxv
              have HXC := Lib.hid hxc; clear hxc
              clear fx
              replace z0 := K9.cell z0 (by simp)
              replace z1 := K9.cell z1 (by simp)
              replace z2 := K9.cell z2 (by simp)
              have t3 : (0 : Int) ≤ (j : Int) := by omega
              have t4 : (j : Int) < 2 := by omega
              go_upto_region 21 with (fail)
              generalize hw9 : wr.alloc _ = w9
              obtain ⟨k9, X9, hy9⟩ := box_cells (l := [.slice xp R.length xcp, .int .i64 (tz : Nat), .int .i64 (mx : Nat)]) hw9
              generalize hze : wr.heap.size = zb at X9 hy9 ⊢
              have HW9 := Lib.hid hw9; clear hw9
              have HZ := Lib.hid hze; clear hze
              clear z0 z1 z2
              have x0 := X9.cell 0 rfl
              go_upto_region 22 with (fail)
              clear x0
              go_loopw [70] (SiRel w9 R) (fun i _ => R.length - (intOf i).toNat)
              case atStart => exact ⟨0, Nat.zero_le _, rfl, Kept.refl _ _⟩
              case round =>
                obtain ⟨i, hi, rfl, K10⟩ := hrel
                by_cases hil : i < R.length
                · have hget : R[i]? = some R[i] := List.getElem?_eq_getElem hil
                  have hmem : R[i] ∈ R := List.getElem_mem hil
                  generalize R[i] = f at hget hmem
                  obtain ⟨hse, hag⟩ := hmm.out f hmem
                  clear hmem
                  obtain ⟨fb, fo, hfp, r0, r1, r2⟩ := HXC.out _ _ hget
                  subst hfp
                  clear hget
                  replace r0 := ((K9.trans k9).trans K10).cell r0 (by simp)
                  replace r1 := ((K9.trans k9).trans K10).cell r1 (by simp)
                  replace r2 := ((K9.trans k9).trans K10).cell r2 (by simp)
                  rw [hse] at r2
                  clear hse
                  have t5 : (0 : Int) ≤ (i : Int) := by omega
                  have t6 : (i : Int) < (R.length : Int) := by omega
                  have A11 := A8.kept ((K9.trans k9).trans K10) (by simp)
                  go_upto_region 24 with (fail)
                  generalize hw11 : wr.alloc _ = w11
                  obtain ⟨k11, X11, hy11⟩ := box_cells (l := [.string f.name, .string f.value, .bool false]) hw11
                  generalize hte : wr.heap.size = tb at X11 hy11 ⊢
                  have HW11 := Lib.hid hw11; clear hw11
                  have HT := Lib.hid hte; clear hte
                  clear r0 r1 r2
                  have x0 := X11.cell 0 rfl
                  have x1 := X11.cell 1 rfl
                  have x2 := X11.cell 2 rfl
                  have hlk : (Instr.lookup 39 (.map (some m)) (.agg #[.string f.name, .string f.value]) false).run Tryd.prog w11 = .ok (.bool true) w11 := by
                    have h := run_lookup_a (P := Tryd.prog) (w := w11) keyA Tryd.underlying39 (.bool false) (zero4 _) (A11.kept k11 (by simp)) (f.name, f.value)
                    rw [hag] at h
                    exact h
                  clear hag
                  go_wp2_with fail
                  exact ⟨⟨i + 1, by omega, by go_num, K10.trans k11⟩, by simp [intOf]; omega⟩
                · go_wp2_with fail
                  exact ⟨⟨j + 1, by omega, by go_num, (K9.trans k9).trans K10⟩, by simp [intOf]; omega⟩
            · go_wp2_with fail
              exact ⟨⟨k + 1, al2, by omega, by go_num, A8.kept K9 (by simp), CK.out, (K6.trans k8).trans K9⟩, by simp [intOf]; omega⟩
    · go_wp2_with ((go_at_call 9; refine (talk_last wr (HG.out.kept (K3.trans K) (by simp) (by simp)) (HE.out.kept (K3.trans K) (by simp))).mono ?_; rintro e w5 ⟨p5, c5, rfl, K5⟩))
      go_ret
      exact ⟨rfl, (K3.trans K).trans K5⟩
end Go.Proofs.YtoceghdnipjkfaaDoor
