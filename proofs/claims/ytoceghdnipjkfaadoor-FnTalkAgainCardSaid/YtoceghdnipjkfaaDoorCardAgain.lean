/-
  FnTalkAgain: the row and its card.
-/
import Derived.Test.YtoceghdnipjkfaaDoorAgain
import Derived.Test.YtoceghdnipjkfaaDoorDoor
namespace Go.Proofs.YtoceghdnipjkfaaDoor
open Go.ChangeShapes Go.WideShapes Go.ChangeAt Go.RowKit Go.WideElems
set_option maxRecDepth 100000

namespace CardAgain
theorem cells23 : Tryd.prog.cellsOf 23 = 3 := by kernel_rfl
theorem reads23 : Tryd.prog.readableRec 23 = true := by kernel_rfl
theorem rowed23 : 23 < Tryd.prog.types.size := of_decide_eq_true (by kernel_rfl)

theorem lifted (os : Os) (started : os.Started) (H : Type) (enc : TypeId × Value → H) (F : Stop.Interp) :
    ReturnsInHanded {} Tryd.checked os 3 .any ((OpenSpec.ofChange Rows.fnTalkAgainSpec).preRow enc Tryd.prog Tryd.f3 Rows.fnTalkAgainRow.domain false Rows.fnTalkAgainRow.laid) (((OpenSpec.ofChange Rows.fnTalkAgainSpec).at F).post enc Tryd.prog Tryd.f3 false true false false) := by
  have hx : ∃ x : List (DataW H) × List (DataW H) × List MemPlace, DataW.whole enc Tryd.prog ((World.doorLaid Tryd.prog 114 os).forCall (fun _ _ => 0) ⟨#[], #[.agg #[.string ⟨#[]⟩, .string ⟨#[]⟩, .bool false]], []⟩).memory Tryd.f3.params.toList Rows.fnTalkAgainSpec.vars false #[Value.agg #[.string ⟨#[]⟩, .string ⟨#[]⟩, .bool false]].toList 8 = some x := by
    have h : (DataW.whole enc Tryd.prog ((World.doorLaid Tryd.prog 114 os).forCall (fun _ _ => 0) ⟨#[], #[.agg #[.string ⟨#[]⟩, .string ⟨#[]⟩, .bool false]], []⟩).memory Tryd.f3.params.toList Rows.fnTalkAgainSpec.vars false #[Value.agg #[.string ⟨#[]⟩, .string ⟨#[]⟩, .bool false]].toList 8).isSome = true := by kernel_rfl
    exact Option.isSome_iff_exists.1 h
  obtain ⟨x, hx⟩ := hx
  refine returnsInHanded_of_row (C := Tryd.checked) (s := OpenSpec.ofChange Rows.fnTalkAgainSpec) own_knob started (by kernel_rfl) Tryd.func3
    (witness_row_atRef (enc := enc) (C := Tryd.checked) false (World.doorLaid Tryd.prog 114 os) #[.agg #[.string ⟨#[]⟩, .string ⟨#[]⟩, .bool false]] rfl (door_refB os _) (by kernel_rfl) (by kernel_rfl)
      (OpenSpec.preRow_of_cond 8 hx rfl (fun k hk => by cases hk) (by kernel_rfl) (door_met os _))) ?_
  intro W base args ds gs before hval0 hW _ _ _ hL _ _
  have hval : ∀ (j : Nat) t v, Tryd.f3.params[j]? = some t → args[j]? = some v → Value.okWide Tryd.prog W .any base t v := hval0
  have hW' := hW
  obtain ⟨p, q, hA0, hV, rfl, hfz, hnd⟩ := hW
  have hA : DataW.TrodAll enc Tryd.prog W 0 (fun _ => true) true Tryd.f3.params.toList args.toList ds p := hA0
  rw [Tryd.params3] at hA hval
  obtain ⟨v0, d0, rfl, rfl, h0⟩ := trodAll_one hA
  clear hA0 hval0 hA
  have h0' := h0
  obtain ⟨x0, x1, x2, y0, y1, y2, n, rfl, _, _, t0, t1, t2⟩ := Joins.open_agg3 Tryd.underlying23 (by kernel_rfl) cells23 (hval 0 23 v0 rfl rfl) h0'
  obtain ⟨s0, e0, _, z0⟩ := DataW.trod_string Tryd.underlying9 t0
  obtain ⟨s1, e1, _, z1⟩ := DataW.trod_string Tryd.underlying9 t1
  obtain ⟨b2, e2, _⟩ := DataW.trod_bool Tryd.underlying4 t2
  obtain rfl : x0 = .string s0 := by simpa using e0
  obtain rfl : x1 = .string s1 := by simpa using e1
  obtain rfl : x2 = .bool b2 := by simpa using e2
  obtain ⟨hg, he⟩ := of_laid hL
  refine (again_any ⟨s0, s1, b2⟩ W hg he (Nat.le_trans z0 (by decide)) (Nat.le_trans z1 (by decide))).mono fun e W' ⟨he, hk⟩ => ?_
  subst he
  exact ⟨_, rfl, row_post (s := Rows.fnTalkAgainSpec) (by kernel_rfl) Tryd.params3 (fun _ _ _ _ _ => rfl) rfl reads23 rowed23 hW' h0 hV hk⟩

theorem said : Rows.FnTalkAgainSaid :=
  OpenClaim.holds_of_cond 3 Tryd.f3 rfl rfl rfl rfl rfl rfl rfl ⟨rfl, rfl, rfl, rfl, rfl⟩ rfl rfl rfl rfl rfl (by kernel_rfl) Tryd.func3 (by kernel_rfl)
    (of_decide_eq_true (by kernel_rfl)) (by unfold Func.isWrapper; first | (rw [if_pos (by decide +kernel)]; kernel_rfl) | (rw [if_neg (by decide +kernel)]; exact ⟨rfl, rfl⟩))
    (fun os started H enc _ F => by rw [OpenClaim.pre_eq_preRow]; exact lifted os started H enc F)

/-- No parameter wants a stand-in; the program's own looks are on. -/
theorem plain (f : FuncId) (fn : Func) (hf : Tryd.pinned.checked.prog.funcNamed "loop.example/pub-g03047/laws.FnTalkAgain" = some f) (hfn : Tryd.pinned.checked.prog.funcs[f]? = some fn) :
    true = Tryd.pinned.checked.prog.looks [] ∧ ∀ (j : Nat) t, fn.params[j]? = some t → Tryd.pinned.checked.prog.wantsStandIn t = false := by
  obtain rfl : f = 3 := Option.some.inj ((show Tryd.prog.funcNamed "loop.example/pub-g03047/laws.FnTalkAgain" = some 3 by kernel_rfl).symm.trans hf) |>.symm
  obtain rfl : fn = Tryd.f3 := (Option.some.inj (Tryd.func3.symm.trans hfn)).symm
  refine ⟨by kernel_rfl, fun j t ht => ?_⟩
  rw [Tryd.params3] at ht
  obtain rfl : t = 23 := by simpa using Array.mem_of_getElem? ht
  exact (show Tryd.prog.wantsStandIn 23 = false by kernel_rfl)

/-- the card of FnTalkAgain -/
theorem card : Rows.FnTalkAgainCardSaid :=
  Claim7.holds_tied_plain_at .later [] _ _ _ _ said (fun _ h => by cases h) (by kernel_rfl) (fun _ h => by cases h) fnTalkAgain_row_tie rfl ⟨rfl, rfl⟩ (by kernel_rfl) rfl plain (by kernel_rfl)
end CardAgain
end Go.Proofs.YtoceghdnipjkfaaDoor
