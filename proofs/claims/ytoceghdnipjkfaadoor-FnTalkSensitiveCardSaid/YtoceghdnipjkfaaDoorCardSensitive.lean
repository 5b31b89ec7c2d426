/-
  FnTalkSensitive: the row and its card.
-/
import Derived.Test.YtoceghdnipjkfaaDoorSensitive
import Derived.Test.YtoceghdnipjkfaaDoorOpen
namespace Go.Proofs.YtoceghdnipjkfaaDoor
open Go.ChangeShapes Go.WideShapes Go.ChangeAt Go.RowKit Go.WideElems
set_option maxRecDepth 100000

namespace CardSensitive
theorem reads30 : Tryd.prog.readableRec 30 = true := by kernel_rfl
theorem rowed30 : 30 < Tryd.prog.types.size := of_decide_eq_true (by kernel_rfl)

theorem lifted (os : Os) (started : os.Started) (H : Type) (enc : TypeId × Value → H) (F : Stop.Interp) :
    ReturnsInHanded {} Tryd.checked os 6 .any ((OpenSpec.ofChange Rows.fnTalkSensitiveSpec).preRow enc Tryd.prog Tryd.f6 Rows.fnTalkSensitiveRow.domain false Rows.fnTalkSensitiveRow.laid) (((OpenSpec.ofChange Rows.fnTalkSensitiveSpec).at F).post enc Tryd.prog Tryd.f6 false true false false) := by
  have hx : ∃ x : List (DataW H) × List (DataW H) × List MemPlace, DataW.whole enc Tryd.prog ((World.doorLaid Tryd.prog 114 os).forCall (fun _ _ => 0) ⟨#[], #[.slice none 0 0], []⟩).memory Tryd.f6.params.toList Rows.fnTalkSensitiveSpec.vars false #[Value.slice none 0 0].toList 8 = some x := by
    have h : (DataW.whole enc Tryd.prog ((World.doorLaid Tryd.prog 114 os).forCall (fun _ _ => 0) ⟨#[], #[.slice none 0 0], []⟩).memory Tryd.f6.params.toList Rows.fnTalkSensitiveSpec.vars false #[Value.slice none 0 0].toList 8).isSome = true := by kernel_rfl
    exact Option.isSome_iff_exists.1 h
  obtain ⟨x, hx⟩ := hx
  refine returnsInHanded_of_row (C := Tryd.checked) (s := OpenSpec.ofChange Rows.fnTalkSensitiveSpec) own_knob started (by kernel_rfl) Tryd.func6
    (witness_row_atRef (enc := enc) (C := Tryd.checked) false (World.doorLaid Tryd.prog 114 os) #[.slice none 0 0] rfl (door_refB os _) (by kernel_rfl) (by kernel_rfl)
      (OpenSpec.preRow_of_cond 8 hx rfl (fun k hk => by cases hk) (by kernel_rfl) (door_met os _))) ?_
  intro W base args ds gs before hval0 hW _ _ _ hL _ _
  have hval : ∀ (j : Nat) t v, Tryd.f6.params[j]? = some t → args[j]? = some v → Value.okWide Tryd.prog W .any base t v := hval0
  have hW' := hW
  obtain ⟨p, q, hA0, hV, rfl, hfz, hnd⟩ := hW
  have hA : DataW.TrodAll enc Tryd.prog W 0 (fun _ => true) true Tryd.f6.params.toList args.toList ds p := hA0
  rw [Tryd.params6] at hA hval
  obtain ⟨v0, d0, rfl, rfl, h0⟩ := trodAll_one hA
  clear hA0 hval0 hA
  obtain ⟨a, len, cap, rfl⟩ := okWide_slice Tryd.underlying30 (hval 0 30 v0 rfl rfl)
  obtain ⟨fuel, hf⟩ := id h0
  obtain ⟨v, ps, hv, hp, hok⟩ := parts_of_trod hf
  obtain rfl : Value.slice a len cap = v := by simpa [Value.cells] using hv
  obtain ⟨hg, he⟩ := of_laid hL
  refine (sens_any _ ps W hp hok hg he).mono fun e W' ⟨he, hk⟩ => ?_
  subst he
  exact ⟨_, rfl, row_post (s := Rows.fnTalkSensitiveSpec) (by kernel_rfl) Tryd.params6 (fun _ _ _ _ _ => rfl) rfl reads30 rowed30 hW' h0 hV hk⟩

theorem said : Rows.FnTalkSensitiveSaid :=
  OpenClaim.holds_of_cond 6 Tryd.f6 rfl rfl rfl rfl rfl rfl rfl ⟨rfl, rfl, rfl, rfl, rfl⟩ rfl rfl rfl rfl rfl (by kernel_rfl) Tryd.func6 (by kernel_rfl)
    (of_decide_eq_true (by kernel_rfl)) (by unfold Func.isWrapper; first | (rw [if_pos (by decide +kernel)]; kernel_rfl) | (rw [if_neg (by decide +kernel)]; exact ⟨rfl, rfl⟩))
    (fun os started H enc _ F => by rw [OpenClaim.pre_eq_preRow]; exact lifted os started H enc F)

/-- No parameter wants a stand-in; the program's own looks are on. -/
theorem plain (f : FuncId) (fn : Func) (hf : Tryd.pinned.checked.prog.funcNamed "loop.example/pub-g03047/laws.FnTalkSensitive" = some f) (hfn : Tryd.pinned.checked.prog.funcs[f]? = some fn) :
    true = Tryd.pinned.checked.prog.looks [] ∧ ∀ (j : Nat) t, fn.params[j]? = some t → Tryd.pinned.checked.prog.wantsStandIn t = false := by
  obtain rfl : f = 6 := Option.some.inj ((show Tryd.prog.funcNamed "loop.example/pub-g03047/laws.FnTalkSensitive" = some 6 by kernel_rfl).symm.trans hf) |>.symm
  obtain rfl : fn = Tryd.f6 := (Option.some.inj (Tryd.func6.symm.trans hfn)).symm
  refine ⟨by kernel_rfl, fun j t ht => ?_⟩
  rw [Tryd.params6] at ht
  obtain rfl : t = 30 := by simpa using Array.mem_of_getElem? ht
  exact (show Tryd.prog.wantsStandIn 30 = false by kernel_rfl)

/-- the card of FnTalkSensitive -/
theorem card : Rows.FnTalkSensitiveCardSaid :=
  Claim7.holds_tied_plain_at .later [] _ _ _ _ said (fun _ h => by cases h) (by kernel_rfl) (fun _ h => by cases h) fnTalkSensitive_row_tie rfl ⟨rfl, rfl⟩ (by kernel_rfl) rfl plain (by kernel_rfl)
end CardSensitive
end Go.Proofs.YtoceghdnipjkfaaDoor
