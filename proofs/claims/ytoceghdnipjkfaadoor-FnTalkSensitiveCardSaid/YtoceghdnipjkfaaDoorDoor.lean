/-
  What the rows of this seat share: the listed variables, opened for the walks; the start that fits; the last step of a row.
-/
import Derived.Test.YtoceghdnipjkfaaDoorDwrite
import Derived.Test.YtoceghdnipjkfaaDoorCards
import Derived.Test.YtoceghdnipjkfaaDoorTie
import Derived.ProofKit
import Derived.LaidMore
import Derived.LaidOnce
import Derived.LaidLaws
import Derived.MakeChecks
import Derived.OpenShut
import Derived.Stop.Joined
import Derived.Deep.DeepHandedRow
import Derived.Deep.DeepWitnessRowRef
import Derived.Lib.LaidTab
import Derived.Lib.SmallJoins
import Derived.Carry
import Derived.OpenVars
import Derived.Below
import Derived.ChangeSame
import Derived.WideKeyArgs
namespace Go.Proofs.YtoceghdnipjkfaaDoor
open Go.ChangeShapes Go.WideShapes Go.ChangeAt Go.RowKit Go.WideElems
set_option maxRecDepth 100000

theorem own_knob : ownKnob Tryd.prog.godebug = none := by kernel_rfl
theorem laid_out : laidOutB Tryd.prog = true := by kernel_rfl

theorem gMore : Tryd.prog.globalNamed "loop.example/pub-g03047/pub/hpack.errNeedMore" = some 1 := by kernel_rfl
theorem gLen : Tryd.prog.globalNamed "loop.example/pub-g03047/pub/hpack.huffmanCodeLen" = some 4 := by kernel_rfl
theorem gCodes : Tryd.prog.globalNamed "loop.example/pub-g03047/pub/hpack.huffmanCodes" = some 5 := by kernel_rfl
theorem tMore : (Tryd.prog.globals[1]?).map (·.type) = some 54 := by kernel_rfl
theorem tLen : (Tryd.prog.globals[4]?).map (·.type) = some 130 := by kernel_rfl
theorem tCodes : (Tryd.prog.globals[5]?).map (·.type) = some 131 := by kernel_rfl
theorem uErr : ∃ ms, Tryd.prog.underlying 54 = some (.interface ms) := ⟨_, Tryd.underlying54⟩
theorem cells110 : Tryd.prog.cellsOf 110 = 1 := by kernel_rfl
theorem cells9 : Tryd.prog.cellsOf 9 = 1 := by kernel_rfl
theorem cells5 : Tryd.prog.cellsOf 5 = 1 := by kernel_rfl
theorem cells49 : Tryd.prog.cellsOf 49 = 1 := by kernel_rfl
theorem cells130 : Tryd.prog.cellsOf 130 = 256 := by kernel_rfl
theorem cells131 : Tryd.prog.cellsOf 131 = 256 := by kernel_rfl
theorem star : "*" ++ "errors.errorString" = "*errors.errorString" := by decide
theorem row108 (u : TypeId) (h : Tryd.prog.typeName? 3 u = some "*errors.errorString") : u = 108 :=
  typeName_ptr_named (nm := "errors.errorString") (by rw [star]; kernel_rfl) (by kernel_rfl) (by decide) u (by rw [star]; exact h)

theorem len_data : (Rows.laid_loop_example_pub_g03047_pub_hpack_huffmanCodeLen : DataW Unit) = Lib.tabData .u8 (hlenL.map fun (n : Nat) => (n : Int)) := by kernel_rfl
theorem codes_data : (Rows.laid_loop_example_pub_g03047_pub_hpack_huffmanCodes : DataW Unit) = Lib.tabData .u32 (hcodeL.map fun (n : Nat) => (n : Int)) := by kernel_rfl

/-- what the rows' lists give: the two tables, the sentinel that is compared with -/
theorem of_laid {W : World} (h : laidMetH Tryd.prog Rows.fnTalkAgainRow.laid W) : Glob W ∧ ErrAt W := by
  rw [MakeChecks.laidMetH_plain _ _ _ (by kernel_rfl)] at h
  obtain ⟨ps, ⟨g0, t0, cs0, f0, p0, q0, hg0, ht0, hv0, hd0, ⟨g1, t1, cs1, f1, p1, q1, hg1, ht1, hv1, hd1, ⟨g2, t2, cs2, f2, p2, q2, hg2, ht2, hv2, hd2, ⟨g3, t3, cs3, f3, p3, q3, hg3, ht3, hv3, hd3, ⟨g4, t4, cs4, f4, p4, q4, hg4, ht4, hv4, hd4, ⟨g5, t5, cs5, f5, p5, q5, hg5, ht5, hv5, hd5, ⟨g6, t6, cs6, f6, p6, q6, hg6, ht6, hv6, hd6, hq6, e6⟩, e5⟩, e4⟩, e3⟩, e2⟩, e1⟩, e0⟩, _, hrows⟩ := h
  clear hd0 hd1 hd2 hd4 hv0 hv1 hv2 hv4 ht0 ht1 ht2 ht4 hg0 hg1 hg2 hg4
  obtain rfl := Option.some.inj (gMore.symm.trans hg3)
  obtain rfl := Option.some.inj (gCodes.symm.trans hg5)
  obtain rfl := Option.some.inj (gLen.symm.trans hg6)
  obtain rfl := Option.some.inj (tMore.symm.trans ht3)
  obtain rfl := Option.some.inj (tCodes.symm.trans ht5)
  obtain rfl := Option.some.inj (tLen.symm.trans ht6)
  have d5 := hd5
  have d6 := hd6
  rw [codes_data] at d5
  rw [len_data] at d6
  clear hd5 hd6
  have c5 := Lib.cells_of_tab Tryd.underlying131 Tryd.underlying49 cells49 cells131 d5
  have c6 := Lib.cells_of_tab Tryd.underlying130 Tryd.underlying5 cells5 cells130 d6
  clear d5 d6
  refine ⟨⟨fun i n hi => ?_, fun i n hi => ?_⟩, ?_⟩
  · rw [World.var?_cell hg6 hv6 i]
    rw [← Array.getElem?_toList, c6, List.map_map, List.getElem?_map, hi]; rfl
  · rw [World.var?_cell hg5 hv5 i]
    rw [← Array.getElem?_toList, c5, List.map_map, List.getElem?_map, hi]; rfl
  · obtain ⟨l3⟩ := cs3
    have ok3 : ∀ u v, l3 = [.iface u v] → Value.okWide Tryd.prog W .any 0 u v := fun u v e => by
      subst e
      refine (hrows 1 0 ?_).2 u v (by simpa using World.var?_cell hg3 hv3 0)
      rw [e0, e1, e2, e3]; simp [MemPlace.row]
    obtain ⟨a, s, rfl, _, _, _, _⟩ := errorString_of_trod Tryd.underlying54 row108 Tryd.underlying108 Tryd.underlying110 rfl rfl Tryd.underlying9 cells110 cells9 hd3 ok3
    exact ⟨108, a, by simpa using World.var?_cell hg3 hv3 0⟩

/-- the door's own heap holds the listed variables: one run, one closed fact -/
theorem door_run (os : Os) (tape : Tape) : doorLeaves Tryd.prog 114 8 257 Rows.fnTalkAgainRow.laid os tape = some (Rows.fnTalkAgainRow.laid.filter fun x => x.2.handleName?.isNone, (funcsListed Rows.fnTalkAgainRow.laid).map (·.2.funcsOut)) := by kernel_rfl
theorem laid_of_leaves {P : Program} {n fuel M : Nat} {laid : List (String × DataW Unit)} {os : Os} {tape : Tape}
    (d : doorLeaves P n fuel M laid os tape = some (laid.filter fun x => x.2.handleName?.isNone, (funcsListed laid).map (·.2.funcsOut))) : laidMetH P laid (varsWorld P n (varsId P) os tape).memory := by
  unfold doorLeaves at d
  unfold varsWorld
  split at d
  · rename_i v w hr
    rw [hr]
    simp only [Option.bind_eq_some_iff] at d
    obtain ⟨x, hx, d⟩ := d
    split at d
    · rename_i hb
      simp only [Bool.and_eq_true] at hb
      simp only [Option.map_eq_some_iff, Prod.mk.injEq] at d
      obtain ⟨y, hy, e1, e2⟩ := d
      exact laidMetH_of_parts3 (fuel := fuel) (laidMet_of_run (ps := x.2) fuel (by rw [hx, ← e1]) (decide_eq_true (nodupBits_sound hb.1.1).1) hb.1.2) hb.2 (by rw [hy, e2])
    · cases d
  · cases d
theorem doorLaid_met {P : Program} {n : Nat} {os : Os} {laid : List (String × DataW Unit)} {args : Array Value} (h : laidMetH P laid (varsWorld P n (varsId P) os (fun _ _ => 0)).memory) :
    laidMetH P laid ((World.doorLaid P n os).forCall (fun _ _ => 0) ⟨#[], args, []⟩).memory := h.of_heap rfl
theorem door_met (os : Os) (args : Array Value) : laidMetH Tryd.prog Rows.fnTalkAgainRow.laid ((World.doorLaid Tryd.prog 114 os).forCall (fun _ _ => 0) ⟨#[], args, []⟩).memory :=
  doorLaid_met (laid_of_leaves (door_run os (fun _ _ => 0)))
theorem door_refB (os : Os) (args : Array Value) : (((World.doorLaid Tryd.prog 114 os).forCall (fun _ _ => 0) ⟨#[], args, []⟩).variablesRefB Tryd.prog) = true := by kernel_rfl

section
variable {H : Type} {enc : TypeId × Value → H} {P : Program}
theorem post_of_below {f : Func} {s : ChangeSpec} {apart fresh handsOn again : Bool} {W W' : World} {args : Array Value} {v : Value} {ds gs : List (DataW H)} {before pa pv : List MemPlace}
    (hW : DataW.Whole enc P f.params.toList s.vars apart W args.toList ds gs before)
    (hres : ∀ (b : Nat) (sp : Nat → Bool) (hd : Bool), DataW.TrodAll enc P W' b sp hd f.resultTypes.toList (v.resultList f.resultTypes.size) (s.fn H (ds ++ gs)).results [])
    (hargs : ∀ sp : Nat → Bool, (∀ p ∈ before, sp p.block = true) → DataW.TrodAll enc P W' 0 sp true f.params.toList args.toList (s.fn H (ds ++ gs)).args pa)
    (hvars : ∀ sp : Nat → Bool, (∀ p ∈ before, sp p.block = true) → DataW.TrodVars enc P W' sp s.vars (s.fn H (ds ++ gs)).vars pv)
    (hps : before = pa ++ pv) (hb : Below W.heap.size W W')
    (hok : ∀ (j : Nat) (t : TypeId) (r : Value), f.resultTypes[j]? = some t → (v.resultList f.resultTypes.size)[j]? = some r → Value.okWide P W' .any 0 t r) :
    s.post enc P f apart fresh handsOn again W args v W' := by
  have hlt : ∀ p ∈ before, p.block < W.heap.size := fun p hp => hW.lt p hp
  have hold : ∀ p ∈ before, (fun b => decide (b < W.heap.size)) p.block = true := fun p hp => by simpa using hlt p hp
  refine ⟨ds, gs, before, [], pa, pv, hW, hres _ _ _, hargs _ hold, hvars _ hold, World.keptBut_mono (fun p hp => ⟨hp, ?_⟩) (hb.frame (· ∈ before)), fun _ => ?_⟩
  · rw [hps, List.mem_append] at hp
    exact Or.inr hp
  · obtain ⟨_, _, _, _, _, hz, hn⟩ := hW
    refine ⟨hok, _, _, ([] ++ pa) ++ pv, ⟨[] ++ pa, pv, trodAll_append (hargs _ (fun _ _ => rfl)) (hres _ _ _), hvars _ (fun _ _ => rfl), rfl, ?_, ?_⟩, ?_⟩
    · intro b off hp
      have hin : MemPlace.cell b off ∈ before := by rw [hps]; simpa using hp
      rw [hb.frozen (hlt _ hin)]
      exact hz b off hin
    · intro ha
      have := hn ha
      rw [hps] at this
      simpa using this
    · intro p hp _
      rw [hps]
      simpa using hp

/-- the named variables, read behind the call over any spare blocks -/
theorem vars_stay (hl : laidOutB P = true) {W W' : World} (hb : Below W.heap.size W W') {sp : Nat → Bool} :
    ∀ {ns : List String} {gs : List (DataW H)} {ps : List MemPlace}, varsRowed P ns = true → DataW.TrodVars enc P W (fun _ => true) ns gs ps → (∀ p ∈ ps, sp p.block = true) → DataW.TrodVars enc P W' sp ns gs ps
  | [], [], _, _, h, _ => h
  | [], _ :: _, _, _, h, _ => h.elim
  | _ :: _, [], _, _, h, _ => h.elim
  | n :: ns, d :: ds, ps, hv, h, hsp => by
    have hlt := h.lt
    obtain ⟨g, t, cs, fuel, p, q, h1, h2, h3, h4, hs, e⟩ := h
    simp only [varsRowed, List.all_cons, Bool.and_eq_true] at hv
    have ht : P.readableRec t = true ∧ t < P.types.size := by
      have := hv.1
      rw [h1] at this
      cases hg : P.globals[g]? with
      | none => rw [hg] at h2; cases h2
      | some gl =>
        rw [hg] at h2
        obtain rfl : gl.type = t := Option.some.inj h2
        simpa [hg] using this
    have hp : ∀ x ∈ p, x.block < W.heap.size := fun x hx => hlt x (by rw [e]; simp [hx])
    have h3' : W'.var? P n = some cs := by
      unfold World.var? at h3 ⊢
      rw [h1] at h3 ⊢
      simp only [Option.bind_some] at h3 ⊢
      have hg : g < W.heap.size := by
        cases hh : W.heap[g]? with
        | none => rw [hh] at h3; cases h3
        | some o => exact (Array.getElem?_eq_some_iff.1 hh).1
      rw [hb.block g hg]; exact h3
    exact ⟨g, t, cs, fuel, p, q, h1, h2, h3', DataW.trod_stays (kids_book hl ht.1) (book_sized ht.1) (fun h => by cases h) ⟨ht.2, book_self t⟩ h4 (fun x hx => hb.same (hp x hx)) (fun x hx => hsp x (by rw [e]; simp [hx])),
      vars_stay hl hb (by simpa [varsRowed] using hv.2) hs (fun x hx => hsp x (by rw [e]; simp [hx])), e⟩
end

/-- the last step of each row: one argument, true, nothing old has turned -/
theorem row_post {H : Type} {enc : TypeId × Value → H} {f : Func} {s : ChangeSpec} {fresh handsOn again : Bool} {W W' : World} {t : TypeId} {v0 : Value} {d0 : DataW H} {gs : List (DataW H)} {p q : List MemPlace}
    (hres : f.resultTypes = #[4]) (hpar : f.params = #[t]) (hfn : ∀ g1 g2 g3 g4 g5 : DataW H, s.fn H [d0, g1, g2, g3, g4, g5] = { results := [.lit (.bool true)], args := [d0], vars := [g1, g2, g3, g4, g5] })
    (hvs : s.vars = Rows.fnTalkAgainSpec.vars) (ht : Tryd.prog.readableRec t = true) (ht2 : t < Tryd.prog.types.size)
    (hW : DataW.Whole enc Tryd.prog f.params.toList s.vars false W [v0] [d0] gs (p ++ q))
    (h0 : DataW.Trod enc Tryd.prog W 0 (fun _ => true) true t v0 d0 p) (hV : DataW.TrodVars enc Tryd.prog W (fun _ => true) s.vars gs q)
    (hk : Kept [] W W') : s.post enc Tryd.prog f false fresh handsOn again W #[v0] (.bool true) W' := by
  have hb : Below W.heap.size W W' := hk.below (Nat.le_refl _) (by simp)
  have hlt : ∀ x ∈ p ++ q, x.block < W.heap.size := fun x hx => hW.lt x hx
  have hgs : ∃ g1 g2 g3 g4 g5, gs = [g1, g2, g3, g4, g5] := by
    rw [hvs] at hV
    match gs, hV with
    | [g1, g2, g3, g4, g5], _ => exact ⟨_, _, _, _, _, rfl⟩
    | [], h => exact h.elim
    | [_], ⟨_, _, _, _, _, _, _, _, _, _, h, _⟩ => exact h.elim
    | [_, _], ⟨_, _, _, _, _, _, _, _, _, _, ⟨_, _, _, _, _, _, _, _, _, _, h, _⟩, _⟩ => exact h.elim
    | [_, _, _], ⟨_, _, _, _, _, _, _, _, _, _, ⟨_, _, _, _, _, _, _, _, _, _, ⟨_, _, _, _, _, _, _, _, _, _, h, _⟩, _⟩, _⟩ => exact h.elim
    | [_, _, _, _], ⟨_, _, _, _, _, _, _, _, _, _, ⟨_, _, _, _, _, _, _, _, _, _, ⟨_, _, _, _, _, _, _, _, _, _, ⟨_, _, _, _, _, _, _, _, _, _, h, _⟩, _⟩, _⟩, _⟩ => exact h.elim
    | _ :: _ :: _ :: _ :: _ :: _ :: _, ⟨_, _, _, _, _, _, _, _, _, _, ⟨_, _, _, _, _, _, _, _, _, _, ⟨_, _, _, _, _, _, _, _, _, _, ⟨_, _, _, _, _, _, _, _, _, _, ⟨_, _, _, _, _, _, _, _, _, _, h, _⟩, _⟩, _⟩, _⟩, _⟩ => exact h.elim
  obtain ⟨g1, g2, g3, g4, g5, rfl⟩ := hgs
  have hrow : varsRowed Tryd.prog s.vars = true := by rw [hvs]; kernel_rfl
  refine post_of_below (pa := p) (pv := q) hW (fun _ _ _ => ?_) (fun sp hsp => ?_) (fun sp hsp => ?_) rfl hb ?_
  · rw [hres]; simp only [List.cons_append, List.nil_append, hfn]
    exact trodAll_mk1 (shut_bool Tryd.underlying4 _)
  · rw [hpar]; simp only [List.cons_append, List.nil_append, hfn]
    exact trodAll_mk1 (Trod_stays laid_out ht ht2 h0 (fun x hx => hb.same (hlt x (by simp [hx]))) (fun x hx => hsp x (by simp [hx])))
  · simp only [List.cons_append, List.nil_append, hfn]
    exact vars_stay laid_out hb hrow hV (fun x hx => hsp x (by simp [hx]))
  · exact ok_one hres rfl (okWide_bool_mk Tryd.underlying4 _)
end Go.Proofs.YtoceghdnipjkfaaDoor
