/-
  The static table (RFC 7541, appendix A): staticTable lays it anew at each call, in one statement whose operations may come in any order.
-/
import Derived.Test.YtoceghdnipjkfaaDoorSearch
import Derived.Great.BuildSlice
namespace Go.Proofs.YtoceghdnipjkfaaDoor
open Go.RowKit

def stP : List (ByteArray × ByteArray) :=
  [ (⟨#[58, 97, 117, 116, 104, 111, 114, 105, 116, 121]⟩, ⟨#[]⟩),
    (⟨#[58, 109, 101, 116, 104, 111, 100]⟩, ⟨#[71, 69, 84]⟩),
    (⟨#[58, 109, 101, 116, 104, 111, 100]⟩, ⟨#[80, 79, 83, 84]⟩),
    (⟨#[58, 112, 97, 116, 104]⟩, ⟨#[47]⟩),
    (⟨#[58, 112, 97, 116, 104]⟩, ⟨#[47, 105, 110, 100, 101, 120, 46, 104, 116, 109, 108]⟩),
    (⟨#[58, 115, 99, 104, 101, 109, 101]⟩, ⟨#[104, 116, 116, 112]⟩),
    (⟨#[58, 115, 99, 104, 101, 109, 101]⟩, ⟨#[104, 116, 116, 112, 115]⟩),
    (⟨#[58, 115, 116, 97, 116, 117, 115]⟩, ⟨#[50, 48, 48]⟩),
    (⟨#[58, 115, 116, 97, 116, 117, 115]⟩, ⟨#[50, 48, 52]⟩),
    (⟨#[58, 115, 116, 97, 116, 117, 115]⟩, ⟨#[50, 48, 54]⟩),
    (⟨#[58, 115, 116, 97, 116, 117, 115]⟩, ⟨#[51, 48, 52]⟩),
    (⟨#[58, 115, 116, 97, 116, 117, 115]⟩, ⟨#[52, 48, 48]⟩),
    (⟨#[58, 115, 116, 97, 116, 117, 115]⟩, ⟨#[52, 48, 52]⟩),
    (⟨#[58, 115, 116, 97, 116, 117, 115]⟩, ⟨#[53, 48, 48]⟩),
    (⟨#[97, 99, 99, 101, 112, 116, 45, 99, 104, 97, 114, 115, 101, 116]⟩, ⟨#[]⟩),
    (⟨#[97, 99, 99, 101, 112, 116, 45, 101, 110, 99, 111, 100, 105, 110, 103]⟩, ⟨#[103, 122, 105, 112, 44, 32, 100, 101, 102, 108, 97, 116, 101]⟩),
    (⟨#[97, 99, 99, 101, 112, 116, 45, 108, 97, 110, 103, 117, 97, 103, 101]⟩, ⟨#[]⟩),
    (⟨#[97, 99, 99, 101, 112, 116, 45, 114, 97, 110, 103, 101, 115]⟩, ⟨#[]⟩),
    (⟨#[97, 99, 99, 101, 112, 116]⟩, ⟨#[]⟩),
    (⟨#[97, 99, 99, 101, 115, 115, 45, 99, 111, 110, 116, 114, 111, 108, 45, 97, 108, 108, 111, 119, 45, 111, 114, 105, 103, 105, 110]⟩, ⟨#[]⟩),
    (⟨#[97, 103, 101]⟩, ⟨#[]⟩),
    (⟨#[97, 108, 108, 111, 119]⟩, ⟨#[]⟩),
    (⟨#[97, 117, 116, 104, 111, 114, 105, 122, 97, 116, 105, 111, 110]⟩, ⟨#[]⟩),
    (⟨#[99, 97, 99, 104, 101, 45, 99, 111, 110, 116, 114, 111, 108]⟩, ⟨#[]⟩),
    (⟨#[99, 111, 110, 116, 101, 110, 116, 45, 100, 105, 115, 112, 111, 115, 105, 116, 105, 111, 110]⟩, ⟨#[]⟩),
    (⟨#[99, 111, 110, 116, 101, 110, 116, 45, 101, 110, 99, 111, 100, 105, 110, 103]⟩, ⟨#[]⟩),
    (⟨#[99, 111, 110, 116, 101, 110, 116, 45, 108, 97, 110, 103, 117, 97, 103, 101]⟩, ⟨#[]⟩),
    (⟨#[99, 111, 110, 116, 101, 110, 116, 45, 108, 101, 110, 103, 116, 104]⟩, ⟨#[]⟩),
    (⟨#[99, 111, 110, 116, 101, 110, 116, 45, 108, 111, 99, 97, 116, 105, 111, 110]⟩, ⟨#[]⟩),
    (⟨#[99, 111, 110, 116, 101, 110, 116, 45, 114, 97, 110, 103, 101]⟩, ⟨#[]⟩),
    (⟨#[99, 111, 110, 116, 101, 110, 116, 45, 116, 121, 112, 101]⟩, ⟨#[]⟩),
    (⟨#[99, 111, 111, 107, 105, 101]⟩, ⟨#[]⟩),
    (⟨#[100, 97, 116, 101]⟩, ⟨#[]⟩),
    (⟨#[101, 116, 97, 103]⟩, ⟨#[]⟩),
    (⟨#[101, 120, 112, 101, 99, 116]⟩, ⟨#[]⟩),
    (⟨#[101, 120, 112, 105, 114, 101, 115]⟩, ⟨#[]⟩),
    (⟨#[102, 114, 111, 109]⟩, ⟨#[]⟩),
    (⟨#[104, 111, 115, 116]⟩, ⟨#[]⟩),
    (⟨#[105, 102, 45, 109, 97, 116, 99, 104]⟩, ⟨#[]⟩),
    (⟨#[105, 102, 45, 109, 111, 100, 105, 102, 105, 101, 100, 45, 115, 105, 110, 99, 101]⟩, ⟨#[]⟩),
    (⟨#[105, 102, 45, 110, 111, 110, 101, 45, 109, 97, 116, 99, 104]⟩, ⟨#[]⟩),
    (⟨#[105, 102, 45, 114, 97, 110, 103, 101]⟩, ⟨#[]⟩),
    (⟨#[105, 102, 45, 117, 110, 109, 111, 100, 105, 102, 105, 101, 100, 45, 115, 105, 110, 99, 101]⟩, ⟨#[]⟩),
    (⟨#[108, 97, 115, 116, 45, 109, 111, 100, 105, 102, 105, 101, 100]⟩, ⟨#[]⟩),
    (⟨#[108, 105, 110, 107]⟩, ⟨#[]⟩),
    (⟨#[108, 111, 99, 97, 116, 105, 111, 110]⟩, ⟨#[]⟩),
    (⟨#[109, 97, 120, 45, 102, 111, 114, 119, 97, 114, 100, 115]⟩, ⟨#[]⟩),
    (⟨#[112, 114, 111, 120, 121, 45, 97, 117, 116, 104, 101, 110, 116, 105, 99, 97, 116, 101]⟩, ⟨#[]⟩),
    (⟨#[112, 114, 111, 120, 121, 45, 97, 117, 116, 104, 111, 114, 105, 122, 97, 116, 105, 111, 110]⟩, ⟨#[]⟩),
    (⟨#[114, 97, 110, 103, 101]⟩, ⟨#[]⟩),
    (⟨#[114, 101, 102, 101, 114, 101, 114]⟩, ⟨#[]⟩),
    (⟨#[114, 101, 102, 114, 101, 115, 104]⟩, ⟨#[]⟩),
    (⟨#[114, 101, 116, 114, 121, 45, 97, 102, 116, 101, 114]⟩, ⟨#[]⟩),
    (⟨#[115, 101, 114, 118, 101, 114]⟩, ⟨#[]⟩),
    (⟨#[115, 101, 116, 45, 99, 111, 111, 107, 105, 101]⟩, ⟨#[]⟩),
    (⟨#[115, 116, 114, 105, 99, 116, 45, 116, 114, 97, 110, 115, 112, 111, 114, 116, 45, 115, 101, 99, 117, 114, 105, 116, 121]⟩, ⟨#[]⟩),
    (⟨#[116, 114, 97, 110, 115, 102, 101, 114, 45, 101, 110, 99, 111, 100, 105, 110, 103]⟩, ⟨#[]⟩),
    (⟨#[117, 115, 101, 114, 45, 97, 103, 101, 110, 116]⟩, ⟨#[]⟩),
    (⟨#[118, 97, 114, 121]⟩, ⟨#[]⟩),
    (⟨#[118, 105, 97]⟩, ⟨#[]⟩),
    (⟨#[119, 119, 119, 45, 97, 117, 116, 104, 101, 110, 116, 105, 99, 97, 116, 101]⟩, ⟨#[]⟩) ]
def stN : List (ByteArray × Nat) :=
  [ (⟨#[58, 97, 117, 116, 104, 111, 114, 105, 116, 121]⟩, 1),
    (⟨#[58, 109, 101, 116, 104, 111, 100]⟩, 3),
    (⟨#[58, 112, 97, 116, 104]⟩, 5),
    (⟨#[58, 115, 99, 104, 101, 109, 101]⟩, 7),
    (⟨#[58, 115, 116, 97, 116, 117, 115]⟩, 14),
    (⟨#[97, 99, 99, 101, 112, 116, 45, 99, 104, 97, 114, 115, 101, 116]⟩, 15),
    (⟨#[97, 99, 99, 101, 112, 116, 45, 101, 110, 99, 111, 100, 105, 110, 103]⟩, 16),
    (⟨#[97, 99, 99, 101, 112, 116, 45, 108, 97, 110, 103, 117, 97, 103, 101]⟩, 17),
    (⟨#[97, 99, 99, 101, 112, 116, 45, 114, 97, 110, 103, 101, 115]⟩, 18),
    (⟨#[97, 99, 99, 101, 112, 116]⟩, 19),
    (⟨#[97, 99, 99, 101, 115, 115, 45, 99, 111, 110, 116, 114, 111, 108, 45, 97, 108, 108, 111, 119, 45, 111, 114, 105, 103, 105, 110]⟩, 20),
    (⟨#[97, 103, 101]⟩, 21),
    (⟨#[97, 108, 108, 111, 119]⟩, 22),
    (⟨#[97, 117, 116, 104, 111, 114, 105, 122, 97, 116, 105, 111, 110]⟩, 23),
    (⟨#[99, 97, 99, 104, 101, 45, 99, 111, 110, 116, 114, 111, 108]⟩, 24),
    (⟨#[99, 111, 110, 116, 101, 110, 116, 45, 100, 105, 115, 112, 111, 115, 105, 116, 105, 111, 110]⟩, 25),
    (⟨#[99, 111, 110, 116, 101, 110, 116, 45, 101, 110, 99, 111, 100, 105, 110, 103]⟩, 26),
    (⟨#[99, 111, 110, 116, 101, 110, 116, 45, 108, 97, 110, 103, 117, 97, 103, 101]⟩, 27),
    (⟨#[99, 111, 110, 116, 101, 110, 116, 45, 108, 101, 110, 103, 116, 104]⟩, 28),
    (⟨#[99, 111, 110, 116, 101, 110, 116, 45, 108, 111, 99, 97, 116, 105, 111, 110]⟩, 29),
    (⟨#[99, 111, 110, 116, 101, 110, 116, 45, 114, 97, 110, 103, 101]⟩, 30),
    (⟨#[99, 111, 110, 116, 101, 110, 116, 45, 116, 121, 112, 101]⟩, 31),
    (⟨#[99, 111, 111, 107, 105, 101]⟩, 32),
    (⟨#[100, 97, 116, 101]⟩, 33),
    (⟨#[101, 116, 97, 103]⟩, 34),
    (⟨#[101, 120, 112, 101, 99, 116]⟩, 35),
    (⟨#[101, 120, 112, 105, 114, 101, 115]⟩, 36),
    (⟨#[102, 114, 111, 109]⟩, 37),
    (⟨#[104, 111, 115, 116]⟩, 38),
    (⟨#[105, 102, 45, 109, 97, 116, 99, 104]⟩, 39),
    (⟨#[105, 102, 45, 109, 111, 100, 105, 102, 105, 101, 100, 45, 115, 105, 110, 99, 101]⟩, 40),
    (⟨#[105, 102, 45, 110, 111, 110, 101, 45, 109, 97, 116, 99, 104]⟩, 41),
    (⟨#[105, 102, 45, 114, 97, 110, 103, 101]⟩, 42),
    (⟨#[105, 102, 45, 117, 110, 109, 111, 100, 105, 102, 105, 101, 100, 45, 115, 105, 110, 99, 101]⟩, 43),
    (⟨#[108, 97, 115, 116, 45, 109, 111, 100, 105, 102, 105, 101, 100]⟩, 44),
    (⟨#[108, 105, 110, 107]⟩, 45),
    (⟨#[108, 111, 99, 97, 116, 105, 111, 110]⟩, 46),
    (⟨#[109, 97, 120, 45, 102, 111, 114, 119, 97, 114, 100, 115]⟩, 47),
    (⟨#[112, 114, 111, 120, 121, 45, 97, 117, 116, 104, 101, 110, 116, 105, 99, 97, 116, 101]⟩, 48),
    (⟨#[112, 114, 111, 120, 121, 45, 97, 117, 116, 104, 111, 114, 105, 122, 97, 116, 105, 111, 110]⟩, 49),
    (⟨#[114, 97, 110, 103, 101]⟩, 50),
    (⟨#[114, 101, 102, 101, 114, 101, 114]⟩, 51),
    (⟨#[114, 101, 102, 114, 101, 115, 104]⟩, 52),
    (⟨#[114, 101, 116, 114, 121, 45, 97, 102, 116, 101, 114]⟩, 53),
    (⟨#[115, 101, 114, 118, 101, 114]⟩, 54),
    (⟨#[115, 101, 116, 45, 99, 111, 111, 107, 105, 101]⟩, 55),
    (⟨#[115, 116, 114, 105, 99, 116, 45, 116, 114, 97, 110, 115, 112, 111, 114, 116, 45, 115, 101, 99, 117, 114, 105, 116, 121]⟩, 56),
    (⟨#[116, 114, 97, 110, 115, 102, 101, 114, 45, 101, 110, 99, 111, 100, 105, 110, 103]⟩, 57),
    (⟨#[117, 115, 101, 114, 45, 97, 103, 101, 110, 116]⟩, 58),
    (⟨#[118, 97, 114, 121]⟩, 59),
    (⟨#[118, 105, 97]⟩, 60),
    (⟨#[119, 119, 119, 45, 97, 117, 116, 104, 101, 110, 116, 105, 99, 97, 116, 101]⟩, 61) ]
def st : List Fld := stP.map fun p => ⟨p.1, p.2, false⟩

noncomputable def regOps : Code → Nat → Array Oper
  | .region id ops _, n => if id = n then ops else #[]
  | .seq a b, n => if (regOps a n).size = 0 then regOps b n else regOps a n
  | _, _ => #[]
noncomputable def ops45 : Array Oper := regOps (Tryd.f45.body.getD .ret) 1
def mkOp (d : Option Tmp) (o : Op) (ty : TypeId) (af : List Nat) : Oper := { dst := d, op := o, type := ty, pos := "static_table.go:7", after := (af.map fun i => { on := i, ground := .data }).toArray, guard := none }
def insN (x : ByteArray × Nat) : Oper := mkOp none (.insert 67 (.tmp 1) (.const (.string x.1)) (.const (.int .u64 x.2))) 0 [0]
def bldP (p : ByteArray × ByteArray) (j : Nat) : Oper := mkOp (some (4 + j)) (.build 114 #[(0, .const (.string p.1)), (1, .const (.string p.2))]) 114 []
def insP (j : Nat) : Oper := mkOp none (.insert 68 (.tmp 3) (.tmp (4 + j)) (.const (.int .u64 (j + 1)))) 0 [54, 55 + 2 * j]
def bldF (p : ByteArray × ByteArray) (j : Nat) : Oper := mkOp (some (66 + j)) (.build 50 #[(0, .const (.string p.1)), (1, .const (.string p.2)), (2, .const (.bool false))]) 50 []

theorem o_len : ops45.size = 243 := by kernel_rfl
theorem o_0 : ops45[0]? = some (mkOp (some 1) (.makeMap 67 none) 67 []) := by kernel_rfl
theorem o_53 : ops45[53]? = some (mkOp (some 2) (.move (.tmp 1)) 67 (List.range 53)) := by kernel_rfl
theorem o_54 : ops45[54]? = some (mkOp (some 3) (.makeMap 68 none) 68 []) := by kernel_rfl
theorem o_177 : ops45[177]? = some (mkOp (some 65) (.move (.tmp 3)) 68 ((List.range 123).map (· + 54))) := by kernel_rfl
theorem o_insN' : (List.range 52).map (fun j => ops45[1 + j]?) = (List.range 52).map (fun j => (stN[j]?).map insN) := by kernel_rfl
theorem o_bldP' : (List.range 61).map (fun j => ops45[55 + 2 * j]?) = (List.range 61).map (fun j => (stP[j]?).map fun p => bldP p j) := by kernel_rfl
theorem o_insP' : (List.range 61).map (fun j => ops45[56 + 2 * j]?) = (List.range 61).map (fun j => some (insP j)) := by kernel_rfl
theorem o_bldF' : (List.range 61).map (fun j => ops45[178 + j]?) = (List.range 61).map (fun j => (stP[j]?).map fun p => bldF p j) := by kernel_rfl
theorem o_239 : ops45[239]? = some (mkOp (some 127) (.buildSlice 46 61 ((List.range 61).map fun j => (j, Operand.tmp (66 + j))).toArray) 46 ((List.range 61).map (· + 178))) := by kernel_rfl
theorem o_240 : ops45[240]? = some (mkOp (some 128) (.build 70 #[(0, .const (.bool true)), (2, .const (.int .u64 0)), (3, .tmp 2), (4, .tmp 65), (1, .tmp 127)]) 70 [53, 177, 239]) := by kernel_rfl
theorem o_241 : ops45[241]? = some (mkOp (some 129) (.box 70 (.tmp 128)) 94 [240]) := by kernel_rfl
theorem o_242 : (ops45[242]?).map (fun o => (o.dst, o.op, o.guard, (o.after.toList.take 1))) = some (some 0, .assign (.tmp 129), none, [{ on := 241, ground := .data }]) := by kernel_rfl
theorem o_acyc : ((List.range 243).all fun i => ((ops45[i]?).map fun o => o.after.all fun e => decide (e.on < i)).getD true) = true := by kernel_rfl
theorem stN_len : stN.length = 52 := by kernel_rfl
theorem stP_len : stP.length = 61 := by kernel_rfl
theorem stN_nodup : (stN.map (·.1)).Nodup := by decide +kernel
theorem stP_nodup : stP.Nodup := by decide +kernel
theorem range_map {α : Type} {f g : Nat → α} {n : Nat} (h : (List.range n).map f = (List.range n).map g) (j : Nat) (hj : j < n) : f j = g j :=
  List.map_inj_left.1 h j (List.mem_range.2 hj)
theorem o_insN {j : Nat} {x : ByteArray × Nat} (h : stN[j]? = some x) : ops45[1 + j]? = some (insN x) := by
  have hj : j < 52 := by rw [← stN_len]; exact (List.getElem?_eq_some_iff.1 h).1
  have := range_map o_insN' j hj
  rw [h] at this; exact this
theorem o_bldP {j : Nat} {p : ByteArray × ByteArray} (h : stP[j]? = some p) : ops45[55 + 2 * j]? = some (bldP p j) := by
  have hj : j < 61 := by rw [← stP_len]; exact (List.getElem?_eq_some_iff.1 h).1
  have := range_map o_bldP' j hj
  rw [h] at this; exact this
theorem o_insP {j : Nat} (hj : j < 61) : ops45[56 + 2 * j]? = some (insP j) := range_map o_insP' j hj
theorem o_bldF {j : Nat} {p : ByteArray × ByteArray} (h : stP[j]? = some p) : ops45[178 + j]? = some (bldF p j) := by
  have hj : j < 61 := by rw [← stP_len]; exact (List.getElem?_eq_some_iff.1 h).1
  have := range_map o_bldF' j hj
  rw [h] at this; exact this

section
variable {P : Program} {ops : Array Oper} {md : Region.Mode} {Q : Exit → Act → World → Prop}
/-- Whatever order is picked: a statement on what has come up so far that every operation that may come up hands on. -/
theorem wpAny_inv (I : Array Bool → Act → World → Prop) (hstep : ∀ listed a w i, I listed a w → i ∈ Region.ready md ops listed → wpOp P ops Q i (fun a' w' => I (listed.setIfInBounds i true) a' w') a w)
    (hend : ∀ listed a w, I listed a w → Region.ready md ops listed = [] → Q .normal a w) : ∀ (fuel : Nat) (listed : Array Bool) (a : Act) (w : World), listed.toList.countP (! ·) ≤ fuel → I listed a w → wpAny P md ops Q fuel listed a w := by
  have hpos : ∀ (listed : Array Bool) (i : Nat), i ∈ Region.ready md ops listed → (listed.setIfInBounds i true).toList.countP (! ·) + 1 = listed.toList.countP (! ·) := by
    intro listed i hi
    have h0 := (mem_ready.1 hi).1
    have hlt : i < listed.size := by
      rcases Nat.lt_or_ge i listed.size with h | h
      · exact h
      · simp [Array.getElem?_eq_none h] at h0
    have hv : listed.toList[i]'(by simpa using hlt) = false := by simpa [hlt] using h0
    simp only [Array.toList_setIfInBounds]
    rw [List.countP_set (by simpa using hlt), hv]
    have : 0 < listed.toList.countP (! ·) := List.countP_pos_iff.2 ⟨false, by rw [← hv]; exact List.getElem_mem _, rfl⟩
    simp only [Bool.not_false, Bool.not_true, if_true, Bool.false_eq_true, if_false]
    omega
  intro fuel
  induction fuel with
  | zero =>
    intro listed a w hc h
    have hr : Region.ready md ops listed = [] := by
      cases hr : Region.ready md ops listed with
      | nil => rfl
      | cons i r =>
        have := hpos listed i (by rw [hr]; simp)
        omega
    exact ⟨hr, hend _ _ _ h hr⟩
  | succ fuel ih =>
    intro listed a w hc h
    refine ⟨fun hr => hend _ _ _ h hr, fun i hi => wpOp_mono (fun a' w' h' => ih _ a' w' ?_ h') (hstep listed a w i h hi)⟩
    have := hpos listed i hi
    omega
/-- where nothing may come up any more, all has come up -/
theorem all_listed {listed : Array Bool} (hac : ((List.range ops.size).all fun i => ((ops[i]?).map fun o => o.after.all fun e => decide (e.on < i)).getD true) = true) (hr : Region.ready md ops listed = []) (hs : listed.size = ops.size) :
    ∀ i, i < ops.size → listed.getD i false = true := by
  intro i
  induction i using Nat.strongRecOn with
  | ind i ih =>
    intro hi
    cases hl : listed.getD i false with
    | true => rfl
    | false =>
      exfalso
      have hmem : i ∈ Region.ready md ops listed := by
        refine mem_ready.2 ⟨?_, ops[i], Array.getElem?_eq_getElem hi, fun e he _ => ?_⟩
        · have hi' : i < listed.size := by omega
          simpa [hi'] using hl
        · have h1 := List.all_eq_true.1 hac i (List.mem_range.2 hi)
          rw [Array.getElem?_eq_getElem hi] at h1
          have h2 := (Array.all_eq_true_iff_forall_mem.1 h1) e he
          have h3 : e.on < i := of_decide_eq_true h2
          exact ih e.on h3 (by omega)
      rw [hr] at hmem
      cases hmem
end

def tm (a : Act) (t : Nat) : Option Value := a.tmps[t]?
theorem tm_ne {a : Act} {d t : Nat} {v : Value} (h : d ≠ t) : tm (a.put (some d) v) t = tm a t := by
  simp [tm, Act.put, Array.getElem?_setIfInBounds_ne h]
theorem tm_same {a : Act} {d : Nat} {v : Value} (h : d < a.tmps.size) : tm (a.put (some d) v) d = some v := by
  simp [tm, Act.put, h]
theorem tm_eval {a : Act} {t : Nat} {v : Value} (h : tm a t = some v) : a.eval (.tmp t) = v := by
  simp [tm] at h
  simp [Act.eval, h]

structure Inv (w0 : World) (df : List Deferred) (L : Nat → Prop) (a : Act) (w : World) : Prop where
  tsz : a.tmps.size = 130
  df : a.defers = df
  kept : Kept [] w0 w
  m1 : L 0 → ∃ M al, tm a 1 = some (.map (some M)) ∧ w0.heap.size ≤ M ∧ AMap kS w M al ∧ Uniq al ∧ (∀ j x, stN[j]? = some x → L (1 + j) → aget al x.1 = some (.int .u64 x.2)) ∧ (∀ k, (∀ j x, stN[j]? = some x → L (1 + j) → x.1 ≠ k) → aget al k = none)
  m2 : L 54 → ∃ M al, tm a 3 = some (.map (some M)) ∧ w0.heap.size ≤ M ∧ AMap kP w M al ∧ Uniq al ∧ (∀ j x, stP[j]? = some x → L (56 + 2 * j) → aget al x = some (.int .u64 (j + 1))) ∧ (∀ k, (∀ j x, stP[j]? = some x → L (56 + 2 * j) → x ≠ k) → aget al k = none)
  ne : L 0 → L 54 → tm a 1 ≠ tm a 3
  cl : (L 53 → L 0) ∧ (L 177 → L 54) ∧ (L 240 → L 53 ∧ L 177 ∧ L 239) ∧ (L 241 → L 240) ∧ (L 242 → L 241)
  ci : (∀ j, j < 52 → L (1 + j) → L 0) ∧ (∀ j, j < 61 → L (56 + 2 * j) → L 54)
  c53 : L 53 → tm a 2 = tm a 1
  c177 : L 177 → tm a 65 = tm a 3
  bp : ∀ j p, stP[j]? = some p → L (55 + 2 * j) → tm a (4 + j) = some (.agg #[.string p.1, .string p.2])
  bf : ∀ j p, stP[j]? = some p → L (178 + j) → tm a (66 + j) = some (.agg #[.string p.1, .string p.2, .bool false])
  sl : L 239 → ∃ g, tm a 127 = some (.slice (some ⟨g, 0, none⟩) 61 61) ∧ w0.heap.size ≤ g ∧ Blk w g (st.flatMap fc) 50
  bd : L 240 → ∃ x y z, tm a 2 = some (.map (some x)) ∧ tm a 65 = some (.map (some y)) ∧ tm a 127 = some (.slice (some ⟨z, 0, none⟩) 61 61) ∧ tm a 128 = some (.agg #[.bool true, .slice (some ⟨z, 0, none⟩) 61 61, .int .u64 0, .map (some x), .map (some y)])
  bx : L 241 → ∃ b x y z, tm a 2 = some (.map (some x)) ∧ tm a 65 = some (.map (some y)) ∧ tm a 127 = some (.slice (some ⟨z, 0, none⟩) 61 61) ∧ tm a 129 = some (.pointer (some ⟨b, 0, none⟩)) ∧ w0.heap.size ≤ b ∧ Blk w b [.bool true, .slice (some ⟨z, 0, none⟩) 61 61, .int .u64 0, .map (some x), .map (some y)] 70
  rt : L 242 → tm a 0 = tm a 129

structure NotDst (L : Nat → Prop) (d : Nat) : Prop where
  n1 : L 0 → d ≠ 1
  n2 : L 53 → d ≠ 2
  n3 : L 54 → d ≠ 3
  n4 : ∀ j, j < 61 → L (55 + 2 * j) → d ≠ 4 + j
  n65 : L 177 → d ≠ 65
  n66 : ∀ j, j < 61 → L (178 + j) → d ≠ 66 + j
  n127 : L 239 → d ≠ 127
  n128 : L 240 → d ≠ 128
  n129 : L 241 → d ≠ 129
  n0 : L 242 → d ≠ 0

theorem lt61 {j : Nat} {p : ByteArray × ByteArray} (h : stP[j]? = some p) : j < 61 := by rw [← stP_len]; exact (List.getElem?_eq_some_iff.1 h).1
theorem lt52 {j : Nat} {p : ByteArray × Nat} (h : stN[j]? = some p) : j < 52 := by rw [← stN_len]; exact (List.getElem?_eq_some_iff.1 h).1

theorem Inv.put {w0 : World} {df : List Deferred} {L : Nat → Prop} {a : Act} {w w' : World} (h : Inv w0 df L a w) {d : Nat} (v : Value) (hd : NotDst L d) (hk : Kept [] w w') : Inv w0 df L (a.put (some d) v) w' where
  tsz := by simpa [Act.put] using h.tsz
  df := h.df
  kept := h.kept.trans hk
  m1 := fun hL => by
    obtain ⟨M, al, h1, h2, h3, h4, h5, h6⟩ := h.m1 hL
    exact ⟨M, al, by rw [tm_ne (hd.n1 hL)]; exact h1, h2, h3.kept hk (by simp), h4, h5, h6⟩
  m2 := fun hL => by
    obtain ⟨M, al, h1, h2, h3, h4, h5, h6⟩ := h.m2 hL
    exact ⟨M, al, by rw [tm_ne (hd.n3 hL)]; exact h1, h2, h3.kept hk (by simp), h4, h5, h6⟩
  ne := fun h1 h2 => by rw [tm_ne (hd.n1 h1), tm_ne (hd.n3 h2)]; exact h.ne h1 h2
  cl := h.cl
  ci := h.ci
  c53 := fun hL => by rw [tm_ne (hd.n2 hL), tm_ne (hd.n1 (h.cl.1 hL))]; exact h.c53 hL
  c177 := fun hL => by rw [tm_ne (hd.n65 hL), tm_ne (hd.n3 (h.cl.2.1 hL))]; exact h.c177 hL
  bp := fun j p hp hL => by rw [tm_ne (hd.n4 j (lt61 hp) hL)]; exact h.bp j p hp hL
  bf := fun j p hp hL => by rw [tm_ne (hd.n66 j (lt61 hp) hL)]; exact h.bf j p hp hL
  sl := fun hL => by
    obtain ⟨g, h1, h2, h3⟩ := h.sl hL
    exact ⟨g, by rw [tm_ne (hd.n127 hL)]; exact h1, h2, h3.kept hk (by simp)⟩
  bd := fun hL => by
    obtain ⟨x, y, z, h1, h2, h3, h4⟩ := h.bd hL
    obtain ⟨l1, l2, l3⟩ := h.cl.2.2.1 hL
    exact ⟨x, y, z, by rw [tm_ne (hd.n2 l1)]; exact h1, by rw [tm_ne (hd.n65 l2)]; exact h2, by rw [tm_ne (hd.n127 l3)]; exact h3, by rw [tm_ne (hd.n128 hL)]; exact h4⟩
  bx := fun hL => by
    obtain ⟨b, x, y, z, h1, h2, h3, h4, h5, h6⟩ := h.bx hL
    obtain ⟨l1, l2, l3⟩ := h.cl.2.2.1 (h.cl.2.2.2.1 hL)
    exact ⟨b, x, y, z, by rw [tm_ne (hd.n2 l1)]; exact h1, by rw [tm_ne (hd.n65 l2)]; exact h2, by rw [tm_ne (hd.n127 l3)]; exact h3, by rw [tm_ne (hd.n129 hL)]; exact h4, h5, h6.kept hk (by simp)⟩
  rt := fun hL => by rw [tm_ne (hd.n0 hL), tm_ne (hd.n129 (h.cl.2.2.2.2 hL))]; exact h.rt hL

theorem no_j {L : Nat → Prop} {i j k n : Nat} (h : ¬ L k ∨ n ≤ j) (hj : j < n) (hl : k = i ∨ L k) (hi : k ≠ i) : False := by
  rcases h with h | h
  · exact h (hl.resolve_left hi)
  · omega
/-- what operation i adds -/
theorem Inv.add {w0 : World} {df : List Deferred} {L : Nat → Prop} {a : Act} {w : World} (h : Inv w0 df L a w) (i : Nat)
    (m1 : i = 0 → ∃ M, tm a 1 = some (.map (some M)) ∧ w0.heap.size ≤ M ∧ AMap kS w M [] ∧ (∀ j, ¬ L (1 + j) ∨ 52 ≤ j) ∧ (L 54 → tm a 1 ≠ tm a 3))
    (m2 : i = 54 → ∃ M, tm a 3 = some (.map (some M)) ∧ w0.heap.size ≤ M ∧ AMap kP w M [] ∧ (∀ j, ¬ L (56 + 2 * j) ∨ 61 ≤ j) ∧ (L 0 → tm a 1 ≠ tm a 3))
    (ni : ¬ (1 ≤ i ∧ i < 53)) (np : ∀ j, i = 56 + 2 * j → 61 ≤ j)
    (c53 : i = 53 → L 0 ∧ tm a 2 = tm a 1) (c177 : i = 177 → L 54 ∧ tm a 65 = tm a 3)
    (bp : ∀ j p, stP[j]? = some p → i = 55 + 2 * j → tm a (4 + j) = some (.agg #[.string p.1, .string p.2]))
    (bf : ∀ j p, stP[j]? = some p → i = 178 + j → tm a (66 + j) = some (.agg #[.string p.1, .string p.2, .bool false]))
    (sl : i = 239 → ∃ g, tm a 127 = some (.slice (some ⟨g, 0, none⟩) 61 61) ∧ w0.heap.size ≤ g ∧ Blk w g (st.flatMap fc) 50)
    (bd : i = 240 → (L 53 ∧ L 177 ∧ L 239) ∧ ∃ x y z, tm a 2 = some (.map (some x)) ∧ tm a 65 = some (.map (some y)) ∧ tm a 127 = some (.slice (some ⟨z, 0, none⟩) 61 61) ∧ tm a 128 = some (.agg #[.bool true, .slice (some ⟨z, 0, none⟩) 61 61, .int .u64 0, .map (some x), .map (some y)]))
    (bx : i = 241 → L 240 ∧ ∃ b x y z, tm a 2 = some (.map (some x)) ∧ tm a 65 = some (.map (some y)) ∧ tm a 127 = some (.slice (some ⟨z, 0, none⟩) 61 61) ∧ tm a 129 = some (.pointer (some ⟨b, 0, none⟩)) ∧ w0.heap.size ≤ b ∧ Blk w b [.bool true, .slice (some ⟨z, 0, none⟩) 61 61, .int .u64 0, .map (some x), .map (some y)] 70)
    (rt : i = 242 → L 241 ∧ tm a 0 = tm a 129) : Inv w0 df (fun k => k = i ∨ L k) a w where
  tsz := h.tsz
  df := h.df
  kept := h.kept
  m1 := fun hL => by
    rcases hL with hL | hL
    · have hne : ∀ j, 1 + j ≠ i := by clear m1 m2 sl bd bx; intro j; omega
      obtain ⟨M, h1, h2, h3, h4, _⟩ := m1 hL.symm
      exact ⟨M, [], h1, h2, h3, List.nodup_nil, fun j x hx hl => (no_j (h4 j) (lt52 hx) hl (hne j)).elim, fun k _ => rfl⟩
    · have hne : ∀ j, j < 52 → 1 + j ≠ i := by clear m1 m2 sl bd bx; intro j hj e; omega
      obtain ⟨M, al, h1, h2, h3, h4, h5, h6⟩ := h.m1 hL
      exact ⟨M, al, h1, h2, h3, h4, fun j x hx hl => h5 j x hx (hl.resolve_left (hne j (lt52 hx))), fun k hk => h6 k fun j x hx hl => hk j x hx (.inr hl)⟩
  m2 := fun hL => by
    rcases hL with hL | hL
    · have hne : ∀ j, 56 + 2 * j ≠ i := by clear m1 m2 sl bd bx; intro j; omega
      obtain ⟨M, h1, h2, h3, h4, _⟩ := m2 hL.symm
      exact ⟨M, [], h1, h2, h3, List.nodup_nil, fun j x hx hl => (no_j (h4 j) (lt61 hx) hl (hne j)).elim, fun k _ => rfl⟩
    · have hne : ∀ j, j < 61 → 56 + 2 * j ≠ i := by clear m1 m2 sl bd bx; intro j hj e; have := np j e.symm; omega
      obtain ⟨M, al, h1, h2, h3, h4, h5, h6⟩ := h.m2 hL
      exact ⟨M, al, h1, h2, h3, h4, fun j x hx hl => h5 j x hx (hl.resolve_left (hne j (lt61 hx))), fun k hk => h6 k fun j x hx hl => hk j x hx (.inr hl)⟩
  ne := fun h1 h2 => by
    rcases h1 with h1 | h1
    · rcases h2 with h2 | h2
      · omega
      · exact (m1 h1.symm).choose_spec.2.2.2.2 h2
    · rcases h2 with h2 | h2
      · exact (m2 h2.symm).choose_spec.2.2.2.2 h1
      · exact h.ne h1 h2
  cl := by
    refine ⟨fun hL => .inr ?_, fun hL => .inr ?_, fun hL => ?_, fun hL => .inr ?_, fun hL => .inr ?_⟩
    · rcases hL with e | e; exact (c53 e.symm).1; exact h.cl.1 e
    · rcases hL with e | e; exact (c177 e.symm).1; exact h.cl.2.1 e
    · have : L 53 ∧ L 177 ∧ L 239 := by rcases hL with e | e; exact (bd e.symm).1; exact h.cl.2.2.1 e
      exact ⟨.inr this.1, .inr this.2.1, .inr this.2.2⟩
    · rcases hL with e | e; exact (bx e.symm).1; exact h.cl.2.2.2.1 e
    · rcases hL with e | e; exact (rt e.symm).1; exact h.cl.2.2.2.2 e
  ci := ⟨fun j hj hL => .inr (h.ci.1 j hj (hL.resolve_left (by clear m1 m2 sl bd bx; omega))), fun j hj hL => .inr (h.ci.2 j hj (hL.resolve_left (by clear m1 m2 sl bd bx; intro e; have := np j e.symm; omega)))⟩
  c53 := fun hL => by rcases hL with e | e; exact (c53 e.symm).2; exact h.c53 e
  c177 := fun hL => by rcases hL with e | e; exact (c177 e.symm).2; exact h.c177 e
  bp := fun j p hp hL => by rcases hL with e | e; exact bp j p hp e.symm; exact h.bp j p hp e
  bf := fun j p hp hL => by rcases hL with e | e; exact bf j p hp e.symm; exact h.bf j p hp e
  sl := fun hL => by rcases hL with e | e; exact sl e.symm; exact h.sl e
  bd := fun hL => by rcases hL with e | e; exact (bd e.symm).2; exact h.bd e
  bx := fun hL => by rcases hL with e | e; exact (bx e.symm).2; exact h.bx e
  rt := fun hL => by rcases hL with e | e; exact (rt e.symm).2; exact h.rt e
theorem stN_inj {j j' : Nat} {x x' : ByteArray × Nat} (h : stN[j]? = some x) (h' : stN[j']? = some x') (e : x.1 = x'.1) : j = j' := by
  have h1 : (stN.map (·.1))[j]? = some x.1 := by rw [List.getElem?_map, h]; rfl
  have h2 : (stN.map (·.1))[j']? = some x.1 := by rw [List.getElem?_map, h', e]; rfl
  exact (List.getElem?_inj (List.getElem?_eq_some_iff.1 h1).1 stN_nodup).1 (h1.trans h2.symm)
theorem stP_inj {j j' : Nat} {x : ByteArray × ByteArray} (h : stP[j]? = some x) (h' : stP[j']? = some x) : j = j' :=
  (List.getElem?_inj (List.getElem?_eq_some_iff.1 h).1 stP_nodup).1 (h.trans h'.symm)

theorem blk_map_ne {K : Type} {kv : K → Value} {w : World} {g M : Nat} {l : List Value} {ty : TypeId} {al : List (K × Value)} (h : Blk w g l ty) (h2 : AMap kv w M al) : g ≠ M := by
  obtain ⟨es, c, h1, _⟩ := h2; exact cells_map_ne h h1

theorem Inv.insN {w0 : World} {df : List Deferred} {L : Nat → Prop} {a : Act} {w : World} (h : Inv w0 df L a w) {j : Nat} {x : ByteArray × Nat} (hx : stN[j]? = some x) (h0 : L 0) :
    ∃ w', (Instr.mapUpdate 67 (a.eval (.tmp 1)) (.string x.1) (.int .u64 x.2)).run Tryd.prog w = .ok () w' ∧ Inv w0 df (fun k => k = 1 + j ∨ L k) a w' := by
  have hj := lt52 hx
  obtain ⟨M, al, e1, hM, A, U, c1, c2⟩ := h.m1 h0
  obtain ⟨w', hr, A', k⟩ := run_update_a (P := Tryd.prog) (w := w) (keyS Tryd.underlying9) Tryd.underlying67 A x.1 (.int .u64 x.2)
  refine ⟨w', by rw [tm_eval e1]; exact hr, ?_⟩
  exact {
    tsz := h.tsz
    df := h.df
    kept := h.kept.step k (by intro b hb; simp at hb; right; rw [hb]; exact hM)
    m1 := fun _ => by
      refine ⟨M, aput al x.1 (.int .u64 x.2), e1, hM, A', uniq_aput _ _ _ U, fun j' x' hx' hl => ?_, fun k hk => ?_⟩
      · rw [aget_aput]
        by_cases e : x'.1 = x.1
        · have := stN_inj hx' hx e
          subst this
          rw [hx] at hx'; cases hx'; simp
        · rw [if_neg e]
          exact c1 j' x' hx' (hl.resolve_left (by intro e'; have : j' = j := by omega
                                                  subst this; rw [hx] at hx'; cases hx'; exact e rfl))
      · rw [aget_aput, if_neg (fun e => hk j x hx (.inl rfl) e.symm)]
        exact c2 k fun j' x' hx' hl => hk j' x' hx' (.inr hl)
    m2 := fun hL => by
      have hL : L 54 := hL.resolve_left (by omega)
      obtain ⟨M2, al2, e2, hM2, A2, r⟩ := h.m2 hL
      refine ⟨M2, al2, e2, hM2, A2.kept k (by simp; intro e; exact h.ne h0 hL (by rw [e1, e2, e])), r.1, fun j' x' hx' hl => r.2.1 j' x' hx' (hl.resolve_left (by have := lt61 hx'; omega)), fun k hk => r.2.2 k fun j' x' hx' hl => hk j' x' hx' (.inr hl)⟩
    ne := fun _ h2 => h.ne h0 (h2.resolve_left (by omega))
    cl := ⟨fun hL => .inr (h.cl.1 (hL.resolve_left (by omega))), fun hL => .inr (h.cl.2.1 (hL.resolve_left (by omega))), fun hL => (by have := h.cl.2.2.1 (hL.resolve_left (by omega)); exact ⟨.inr this.1, .inr this.2.1, .inr this.2.2⟩), fun hL => .inr (h.cl.2.2.2.1 (hL.resolve_left (by omega))), fun hL => .inr (h.cl.2.2.2.2 (hL.resolve_left (by omega)))⟩
    ci := ⟨fun _ _ _ => .inr h0, fun j' hj' hL => .inr (h.ci.2 j' hj' (hL.resolve_left (by omega)))⟩
    c53 := fun hL => h.c53 (hL.resolve_left (by omega))
    c177 := fun hL => h.c177 (hL.resolve_left (by omega))
    bp := fun j' p hp hL => h.bp j' p hp (hL.resolve_left (by omega))
    bf := fun j' p hp hL => h.bf j' p hp (hL.resolve_left (by omega))
    sl := fun hL => by
      obtain ⟨g, h1, h2, h3⟩ := h.sl (hL.resolve_left (by omega))
      exact ⟨g, h1, h2, h3.kept k (by simpa using blk_map_ne h3 A)⟩
    bd := fun hL => h.bd (hL.resolve_left (by omega))
    bx := fun hL => by
      obtain ⟨b, x, y, z, h1, h2, h3, h4, h5, h6⟩ := h.bx (hL.resolve_left (by omega))
      exact ⟨b, x, y, z, h1, h2, h3, h4, h5, h6.kept k (by simpa using blk_map_ne h6 A)⟩
    rt := fun hL => h.rt (hL.resolve_left (by omega)) }

theorem Inv.insP {w0 : World} {df : List Deferred} {L : Nat → Prop} {a : Act} {w : World} (h : Inv w0 df L a w) {j : Nat} {x : ByteArray × ByteArray} (hx : stP[j]? = some x) (h0 : L 54) (hb : L (55 + 2 * j)) :
    ∃ w', (Instr.mapUpdate 68 (a.eval (.tmp 3)) (a.eval (.tmp (4 + j))) (.int .u64 (j + 1))).run Tryd.prog w = .ok () w' ∧ Inv w0 df (fun k => k = 56 + 2 * j ∨ L k) a w' := by
  have hj := lt61 hx
  obtain ⟨M, al, e1, hM, A, U, c1, c2⟩ := h.m2 h0
  obtain ⟨w', hr, A', k⟩ := run_update_a (P := Tryd.prog) (w := w) keyP Tryd.underlying68 A x (.int .u64 (j + 1))
  refine ⟨w', by rw [tm_eval e1, tm_eval (h.bp j x hx hb)]; exact hr, ?_⟩
  exact {
    tsz := h.tsz
    df := h.df
    kept := h.kept.step k (by intro b hb; simp at hb; right; rw [hb]; exact hM)
    m2 := fun _ => by
      refine ⟨M, aput al x (.int .u64 (j + 1)), e1, hM, A', uniq_aput _ _ _ U, fun j' x' hx' hl => ?_, fun k hk => ?_⟩
      · rw [aget_aput]
        by_cases e : x' = x
        · subst e
          have := stP_inj hx' hx
          subst this
          simp
        · rw [if_neg e]
          exact c1 j' x' hx' (hl.resolve_left (by intro e'; have : j' = j := by omega
                                                  subst this; rw [hx] at hx'; cases hx'; exact e rfl))
      · rw [aget_aput, if_neg (fun e => hk j x hx (.inl rfl) e.symm)]
        exact c2 k fun j' x' hx' hl => hk j' x' hx' (.inr hl)
    m1 := fun hL => by
      have hL : L 0 := hL.resolve_left (by omega)
      obtain ⟨M2, al2, e2, hM2, A2, r⟩ := h.m1 hL
      refine ⟨M2, al2, e2, hM2, A2.kept k (by simp; intro e; exact h.ne hL h0 (by rw [e1, e2, e])), r.1, fun j' x' hx' hl => r.2.1 j' x' hx' (hl.resolve_left (by have := lt52 hx'; omega)), fun k hk => r.2.2 k fun j' x' hx' hl => hk j' x' hx' (.inr hl)⟩
    ne := fun h1 _ => h.ne (h1.resolve_left (by omega)) h0
    cl := ⟨fun hL => .inr (h.cl.1 (hL.resolve_left (by omega))), fun hL => .inr (h.cl.2.1 (hL.resolve_left (by omega))), fun hL => (by have := h.cl.2.2.1 (hL.resolve_left (by omega)); exact ⟨.inr this.1, .inr this.2.1, .inr this.2.2⟩), fun hL => .inr (h.cl.2.2.2.1 (hL.resolve_left (by omega))), fun hL => .inr (h.cl.2.2.2.2 (hL.resolve_left (by omega)))⟩
    ci := ⟨fun j' hj' hL => .inr (h.ci.1 j' hj' (hL.resolve_left (by omega))), fun _ _ _ => .inr h0⟩
    c53 := fun hL => h.c53 (hL.resolve_left (by omega))
    c177 := fun hL => h.c177 (hL.resolve_left (by omega))
    bp := fun j' p hp hL => h.bp j' p hp (hL.resolve_left (by omega))
    bf := fun j' p hp hL => h.bf j' p hp (hL.resolve_left (by omega))
    sl := fun hL => by
      obtain ⟨g, h1, h2, h3⟩ := h.sl (hL.resolve_left (by omega))
      exact ⟨g, h1, h2, h3.kept k (by simpa using blk_map_ne h3 A)⟩
    bd := fun hL => h.bd (hL.resolve_left (by omega))
    bx := fun hL => by
      obtain ⟨b, x, y, z, h1, h2, h3, h4, h5, h6⟩ := h.bx (hL.resolve_left (by omega))
      exact ⟨b, x, y, z, h1, h2, h3, h4, h5, h6.kept k (by simpa using blk_map_ne h6 A)⟩
    rt := fun hL => h.rt (hL.resolve_left (by omega)) }

def Lst (l : Array Bool) (i : Nat) : Prop := l.getD i false = true
theorem Lst_set {l : Array Bool} {i : Nat} (h : i < l.size) : Lst (l.setIfInBounds i true) = fun k => k = i ∨ Lst l k := by
  funext k
  apply propext
  unfold Lst
  by_cases e : k = i
  · subst e; simp [h]
  · rw [getD_set_ne false (fun h => e h.symm)]; simp [e]
theorem put_none (a : Act) (v : Value) : a.put none v = a := rfl
theorem wp_val {P : Program} {o : Oper} {a : Act} {w w' : World} {K : Act → World → Prop} {Q : Exit → Act → World → Prop} {v : Value} (h : (execOp a.eval o).run P w = .ok (.value v) w') (hK : K (a.put o.dst v) w') : o.wp P a w K Q := by
  unfold Oper.wp; rw [h]; exact hK
theorem wp_skip {P : Program} {o : Oper} {a : Act} {w w' : World} {K : Act → World → Prop} {Q : Exit → Act → World → Prop} (h : (execOp a.eval o).run P w = .ok .skip w') (hK : K (a.put o.dst undef) w') : o.wp P a w K Q := by
  unfold Oper.wp; rw [h]; exact hK
theorem want {ops : Array Oper} {o : Oper} {a : Act} (h : o.guard = none) : Region.wanted o (yielded ops a.tmps) = true := by simp [Region.wanted, h]
theorem AMap.new {K : Type} {kv : K → Value} (w : World) : AMap kv (w.alloc (.map #[] 0)) w.heap.size [] := ⟨#[], 0, heap_alloc_new w _, rfl⟩
theorem fillSt (c : Nat → Value) (h : ∀ j p, stP[j]? = some p → c j = .agg #[.string p.1, .string p.2, .bool false]) :
    Instr.fill (fun i => some (i * 3, 3)) ((Array.range (61 * 3)).map ((Value.agg #[.string ⟨#[]⟩, .string ⟨#[]⟩, .bool false]).cells[· % (Value.agg #[.string ⟨#[]⟩, .string ⟨#[]⟩, .bool false]).cells.size]!)) ((List.range 61).map fun j => (j, c j)) = some (st.flatMap fc).toArray := by
  have e : (List.range 61).map (fun j => (j, c j)) = (List.range 61).map (fun j => (j, match stP[j]? with | some p => Value.agg #[.string p.1, .string p.2, .bool false] | none => undef)) := by
    apply List.map_inj_left.2
    intro j hj
    have hj : j < stP.length := by rw [stP_len]; exact List.mem_range.1 hj
    rw [List.getElem?_eq_getElem hj]
    simp only [h j _ (List.getElem?_eq_getElem hj)]
  rw [e]
  show _ = _
  kernel_rfl

def St45 (w0 : World) (df : List Deferred) (listed : Array Bool) (a : Act) (w : World) : Prop := listed.size = 243 ∧ Inv w0 df (Lst listed) a w

theorem pair_or (i : Nat) (h1 : 55 ≤ i) (h2 : i < 177) : (∃ j, j < 61 ∧ i = 55 + 2 * j) ∨ (∃ j, j < 61 ∧ i = 56 + 2 * j) := by
  by_cases e : i % 2 = 1
  · exact .inl ⟨(i - 55) / 2, by omega, by omega⟩
  · exact .inr ⟨(i - 56) / 2, by omega, by omega⟩

set_option maxRecDepth 20000 in
theorem inv_step {Q : Exit → Act → World → Prop} (w0 : World) (df : List Deferred) (listed : Array Bool) (a : Act) (w : World) (i : Nat) (h : St45 w0 df listed a w) (hr : i ∈ Region.ready .any ops45 listed) :
    wpOp Tryd.prog ops45 Q i (fun a' w' => St45 w0 df (listed.setIfInBounds i true) a' w') a w := by
  have hs := h.1
  replace h := h.2
  have hr2 := mem_ready.1 hr
  obtain ⟨hn0, o, ho, hdep⟩ := hr2
  have hi : i < ops45.size := (Array.getElem?_eq_some_iff.1 ho).1
  rw [o_len] at hi
  have hn : ¬ Lst listed i := by
    intro hL; unfold Lst at hL
    have : i < listed.size := by omega
    simp [this] at hL hn0; rw [hL] at hn0; cases hn0
  have hsz : (listed.setIfInBounds i true).size = 243 := by simpa using hs
  have hst := Lst_set (l := listed) (i := i) (by omega)
  have ht := h.tsz
  unfold St45
  rw [hst]
  have dep : ∀ (d : Option Tmp) (op : Op) (ty : TypeId) (af : List Nat), o = mkOp d op ty af → ∀ k ∈ af, Lst listed k := by
    intro d op ty af e k hk
    subst e
    exact hdep { on := k, ground := .data } (by simp [mkOp, hk]) (by rfl)
  by_cases i0 : i = 0
  · subst i0
    refine wpOp_step o_0 (fun K hK => ?_)
    rw [if_pos (want rfl)]
    refine wp_val (v := .map (some w.heap.size)) (w' := w.alloc (.map #[] 0)) rfl (hK _ _ ⟨hsz, ?_⟩)
    have h53 : ¬ Lst listed 53 := fun e => hn (h.cl.1 e)
    have kw : Kept [] w (w.alloc (.map #[] 0)) := (Kept.refl _ _).alloc _
    have h' := h.put (d := 1) (.map (some w.heap.size)) (w' := w.alloc (.map #[] 0)) ⟨fun e => absurd e hn, fun e => absurd e h53, fun _ => by omega, fun _ _ _ => by omega, fun _ => by omega, fun _ _ _ => by omega, fun _ => by omega, fun _ => by omega, fun _ => by omega, fun _ => by omega⟩ kw
    refine h'.add 0 (fun _ => ⟨w.heap.size, tm_same (by omega), h.kept.size, AMap.new w, fun j => ?_, fun h54 => ?_⟩) (fun e => absurd e (by omega)) (by omega) (fun j e => by omega) (fun e => absurd e (by omega)) (fun e => absurd e (by omega)) (fun j p hp e => absurd e (by have := lt61 hp; omega)) (fun j p hp e => absurd e (by have := lt61 hp; omega)) (fun e => absurd e (by omega)) (fun e => absurd e (by omega)) (fun e => absurd e (by omega)) (fun e => absurd e (by omega))
    · by_cases hj : j < 52
      · exact .inl fun e => hn (h.ci.1 j hj e)
      · exact .inr (by omega)
    · obtain ⟨M, al, e1, _, A, _⟩ := h.m2 h54
      rw [tm_same (by omega), tm_ne (by omega), e1]
      intro e; cases e; have := A.lt; omega
  by_cases i1 : i < 53
  · obtain ⟨j, rfl⟩ : ∃ j, i = 1 + j := ⟨i - 1, by omega⟩
    have hj : j < stN.length := by rw [stN_len]; omega
    have hx := List.getElem?_eq_getElem hj
    generalize stN[j] = x at hx
    have hox := o_insN hx
    rw [ho] at hox
    have h0 := dep _ _ _ _ (Option.some.inj hox) 0 (by simp)
    obtain ⟨w', hrun, hI⟩ := h.insN hx h0
    refine wpOp_step (o_insN hx) (fun K hK => ?_)
    rw [if_pos (want rfl)]
    refine wp_skip (w' := w') ?_ (hK _ _ ⟨hsz, hI⟩)
    simp only [execOp, insN, mkOp, Sem.run_bind, Sem.run_pure]
    rw [show a.eval (.const (.string x.1)) = .string x.1 from rfl, show a.eval (.const (.int .u64 (x.2 : Int))) = .int .u64 x.2 from rfl, hrun]
    rfl
  by_cases i2 : i = 53
  · subst i2
    rw [o_53] at ho
    have h0 := dep _ _ _ _ (Option.some.inj ho).symm 0 (by simp)
    obtain ⟨M, al, e1, _⟩ := h.m1 h0
    refine wpOp_step o_53 (fun K hK => ?_)
    rw [if_pos (want rfl)]
    refine wp_val (v := a.eval (.tmp 1)) (w' := w) rfl (hK _ _ ⟨hsz, ?_⟩)
    have h' := h.put (d := 2) (a.eval (.tmp 1)) (w' := w) ⟨fun _ => by omega, fun e => absurd e hn, fun _ => by omega, fun _ _ _ => by omega, fun _ => by omega, fun _ _ _ => by omega, fun _ => by omega, fun _ => by omega, fun _ => by omega, fun _ => by omega⟩ (Kept.refl _ _)
    refine h'.add 53 (fun e => absurd e (by omega)) (fun e => absurd e (by omega)) (by omega) (fun j e => by omega) (fun _ => ⟨h0, by rw [tm_same (by omega), tm_ne (by omega), e1, tm_eval e1]⟩) (fun e => absurd e (by omega)) (fun j p hp e => absurd e (by have := lt61 hp; omega)) (fun j p hp e => absurd e (by have := lt61 hp; omega)) (fun e => absurd e (by omega)) (fun e => absurd e (by omega)) (fun e => absurd e (by omega)) (fun e => absurd e (by omega))
  by_cases i3 : i = 54
  · subst i3
    refine wpOp_step o_54 (fun K hK => ?_)
    rw [if_pos (want rfl)]
    refine wp_val (v := .map (some w.heap.size)) (w' := w.alloc (.map #[] 0)) rfl (hK _ _ ⟨hsz, ?_⟩)
    have h53 : ¬ Lst listed 177 := fun e => hn (h.cl.2.1 e)
    have kw : Kept [] w (w.alloc (.map #[] 0)) := (Kept.refl _ _).alloc _
    have h' := h.put (d := 3) (.map (some w.heap.size)) (w' := w.alloc (.map #[] 0)) ⟨fun _ => by omega, fun _ => by omega, fun e => absurd e hn, fun _ _ _ => by omega, fun e => absurd e h53, fun _ _ _ => by omega, fun _ => by omega, fun _ => by omega, fun _ => by omega, fun _ => by omega⟩ kw
    refine h'.add 54 (fun e => absurd e (by omega)) (fun _ => ⟨w.heap.size, tm_same (by omega), h.kept.size, AMap.new w, fun j => ?_, fun h54 => ?_⟩) (by omega) (fun j e => by omega) (fun e => absurd e (by omega)) (fun e => absurd e (by omega)) (fun j p hp e => absurd e (by have := lt61 hp; omega)) (fun j p hp e => absurd e (by have := lt61 hp; omega)) (fun e => absurd e (by omega)) (fun e => absurd e (by omega)) (fun e => absurd e (by omega)) (fun e => absurd e (by omega))
    · by_cases hj : j < 61
      · exact .inl fun e => hn (h.ci.2 j hj e)
      · exact .inr (by omega)
    · obtain ⟨M, al, e1, _, A, _⟩ := h.m1 h54
      rw [tm_same (by omega), tm_ne (by omega), e1]
      intro e; cases e; have := A.lt; omega
  by_cases i4 : i < 177
  · rcases pair_or i (by omega) i4 with ⟨j, hj, rfl⟩ | ⟨j, hj, rfl⟩
    · have hx := List.getElem?_eq_getElem (l := stP) (i := j) (by rw [stP_len]; exact hj)
      generalize stP[j] = x at hx
      refine wpOp_step (o_bldP hx) (fun K hK => ?_)
      rw [if_pos (want rfl)]
      refine wp_val (v := .agg #[.string x.1, .string x.2]) (w' := w) ?_ (hK _ _ ⟨hsz, ?_⟩)
      · have hrun := run_build (P := Tryd.prog) w 114 #[(0, .string x.1), (1, .string x.2)] #[.string x.1, .string x.2] (by kernel_rfl)
        simp only [execOp, bldP, mkOp, Sem.run_bind, List.map_toArray, List.map_cons, List.map_nil]
        rw [show a.eval (.const (.string x.1)) = .string x.1 from rfl, show a.eval (.const (.string x.2)) = .string x.2 from rfl, hrun]
        rfl
      have h' := h.put (d := 4 + j) (.agg #[.string x.1, .string x.2]) (w' := w) ⟨fun _ => by omega, fun _ => by omega, fun _ => by omega, fun j' hj' hL e => hn (by rw [show 55 + 2 * j = 55 + 2 * j' from by omega]; exact hL), fun _ => by omega, fun _ _ _ => by omega, fun _ => by omega, fun _ => by omega, fun _ => by omega, fun _ => by omega⟩ (Kept.refl _ _)
      refine h'.add (55 + 2 * j) (fun e => absurd e (by omega)) (fun e => absurd e (by omega)) (by omega) (fun j e => by omega) (fun e => absurd e (by omega)) (fun e => absurd e (by omega)) (fun j' p hp e => by (have ej : j = j' := (by omega)); subst ej; rw [hx] at hp; cases hp; exact tm_same (by omega)) (fun j p hp e => absurd e (by have := lt61 hp; omega)) (fun e => absurd e (by omega)) (fun e => absurd e (by omega)) (fun e => absurd e (by omega)) (fun e => absurd e (by omega))
    · have hx := List.getElem?_eq_getElem (l := stP) (i := j) (by rw [stP_len]; exact hj)
      generalize stP[j] = x at hx
      have hox := o_insP hj
      rw [ho] at hox
      have h54 := dep _ _ _ _ (Option.some.inj hox) 54 (by simp)
      have hb := dep _ _ _ _ (Option.some.inj hox) (55 + 2 * j) (by simp)
      obtain ⟨w', hrun, hI⟩ := h.insP hx h54 hb
      refine wpOp_step (o_insP hj) (fun K hK => ?_)
      rw [if_pos (want rfl)]
      refine wp_skip (w' := w') ?_ (hK _ _ ⟨hsz, hI⟩)
      simp only [execOp, insP, mkOp, Sem.run_bind, Sem.run_pure]
      rw [show a.eval (.const (.int .u64 ((j : Int) + 1))) = .int .u64 (j + 1) from rfl, hrun]
      rfl
  by_cases i5 : i = 177
  · subst i5
    rw [o_177] at ho
    have h0 := dep _ _ _ _ (Option.some.inj ho).symm 54 (by simp)
    obtain ⟨M, al, e1, _⟩ := h.m2 h0
    refine wpOp_step o_177 (fun K hK => ?_)
    rw [if_pos (want rfl)]
    refine wp_val (v := a.eval (.tmp 3)) (w' := w) rfl (hK _ _ ⟨hsz, ?_⟩)
    have h' := h.put (d := 65) (a.eval (.tmp 3)) (w' := w) ⟨fun _ => by omega, fun _ => by omega, fun _ => by omega, fun _ _ _ => by omega, fun e => absurd e hn, fun _ _ _ => by omega, fun _ => by omega, fun _ => by omega, fun _ => by omega, fun _ => by omega⟩ (Kept.refl _ _)
    refine h'.add 177 (fun e => absurd e (by omega)) (fun e => absurd e (by omega)) (by omega) (fun j e => by omega) (fun e => absurd e (by omega)) (fun _ => ⟨h0, by rw [tm_same (by omega), tm_ne (by omega), e1, tm_eval e1]⟩) (fun j p hp e => absurd e (by have := lt61 hp; omega)) (fun j p hp e => absurd e (by have := lt61 hp; omega)) (fun e => absurd e (by omega)) (fun e => absurd e (by omega)) (fun e => absurd e (by omega)) (fun e => absurd e (by omega))
  by_cases i6 : i < 239
  · obtain ⟨j, rfl⟩ : ∃ j, i = 178 + j := ⟨i - 178, by omega⟩
    have hjl : j < stP.length := by rw [stP_len]; omega
    have hx := List.getElem?_eq_getElem hjl
    generalize stP[j] = x at hx
    refine wpOp_step (o_bldF hx) (fun K hK => ?_)
    rw [if_pos (want rfl)]
    refine wp_val (v := .agg #[.string x.1, .string x.2, .bool false]) (w' := w) ?_ (hK _ _ ⟨hsz, ?_⟩)
    · have hrun := run_build (P := Tryd.prog) w 50 #[(0, .string x.1), (1, .string x.2), (2, .bool false)] #[.string x.1, .string x.2, .bool false] (by kernel_rfl)
      simp only [execOp, bldF, mkOp, Sem.run_bind, List.map_toArray, List.map_cons, List.map_nil]
      rw [show a.eval (.const (.string x.1)) = .string x.1 from rfl, show a.eval (.const (.string x.2)) = .string x.2 from rfl, show a.eval (.const (.bool false)) = .bool false from rfl, hrun]
      rfl
    have h' := h.put (d := 66 + j) (.agg #[.string x.1, .string x.2, .bool false]) (w' := w) ⟨fun _ => by omega, fun _ => by omega, fun _ => by omega, fun _ _ _ => by omega, fun _ => by omega, fun j' hj' hL e => hn (by rw [show 178 + j = 178 + j' from by omega]; exact hL), fun _ => by omega, fun _ => by omega, fun _ => by omega, fun _ => by omega⟩ (Kept.refl _ _)
    refine h'.add (178 + j) (fun e => absurd e (by omega)) (fun e => absurd e (by omega)) (by omega) (fun j e => by omega) (fun e => absurd e (by omega)) (fun e => absurd e (by omega)) (fun j p hp e => absurd e (by have := lt61 hp; omega)) (fun j' p hp e => by (have ej : j = j' := (by omega)); subst ej; rw [hx] at hp; cases hp; exact tm_same (by omega)) (fun e => absurd e (by omega)) (fun e => absurd e (by omega)) (fun e => absurd e (by omega)) (fun e => absurd e (by omega))
  by_cases i7 : i = 239
  · subst i7
    rw [o_239] at ho
    have hd : ∀ j, j < 61 → Lst listed (178 + j) := fun j hj => dep _ _ _ _ (Option.some.inj ho).symm (178 + j) (List.mem_map.2 ⟨j, List.mem_range.2 hj, Nat.add_comm _ _⟩)
    obtain ⟨i0, hi0, hz0, hz1, hz2⟩ := info_parts info50
    have hrun := run_buildSlice (P := Tryd.prog) w 46 50 61 (((List.range 61).map fun j => (j, a.eval (.tmp (66 + j)))).toArray) (st.flatMap fc).toArray i0 _ Tryd.underlying46 hi0 hz0 (by rw [hz1]; decide) (by rw [hz1]; decide)
      (by rw [hz1]; exact fillSt (fun j => a.eval (.tmp (66 + j))) (fun j p hp => tm_eval (h.bf j p hp (hd j (lt61 hp)))))
    refine wpOp_step o_239 (fun K hK => ?_)
    rw [if_pos (want rfl)]
    refine wp_val (v := .slice (some ⟨w.heap.size, 0, none⟩) 61 61) (w' := w.alloc (.cells (st.flatMap fc).toArray 50)) ?_ (hK _ _ ⟨hsz, ?_⟩)
    · simp only [execOp, mkOp, Sem.run_bind, List.map_toArray, List.map_map]
      rw [show ((fun x : Nat × Operand => (x.1, a.eval x.2)) ∘ fun j => (j, Operand.tmp (66 + j))) = (fun j => (j, a.eval (.tmp (66 + j)))) from rfl, hrun]
      rfl
    have kw : Kept [] w (w.alloc (.cells (st.flatMap fc).toArray 50)) := (Kept.refl _ _).alloc _
    have h240 : ¬ Lst listed 240 := fun e => hn (h.cl.2.2.1 e).2.2
    have h' := h.put (d := 127) (.slice (some ⟨w.heap.size, 0, none⟩) 61 61) (w' := w.alloc (.cells (st.flatMap fc).toArray 50)) ⟨fun _ => by omega, fun _ => by omega, fun _ => by omega, fun _ _ _ => by omega, fun _ => by omega, fun _ _ _ => by omega, fun e => absurd e hn, fun _ => by omega, fun _ => by omega, fun _ => by omega⟩ kw
    refine h'.add 239 (fun e => absurd e (by omega)) (fun e => absurd e (by omega)) (by omega) (fun j e => by omega) (fun e => absurd e (by omega)) (fun e => absurd e (by omega)) (fun j p hp e => absurd e (by have := lt61 hp; omega)) (fun j p hp e => absurd e (by have := lt61 hp; omega)) (fun _ => ⟨w.heap.size, tm_same (by omega), h.kept.size, Blk.new w _ _⟩) (fun e => absurd e (by omega)) (fun e => absurd e (by omega)) (fun e => absurd e (by omega))
  by_cases i8 : i = 240
  · subst i8
    rw [o_240] at ho
    have d1 := dep _ _ _ _ (Option.some.inj ho).symm 53 (by simp)
    have d2 := dep _ _ _ _ (Option.some.inj ho).symm 177 (by simp)
    have d3 := dep _ _ _ _ (Option.some.inj ho).symm 239 (by simp)
    obtain ⟨M1, al1, e1, _⟩ := h.m1 (h.cl.1 d1)
    obtain ⟨M2, al2, e2, _⟩ := h.m2 (h.cl.2.1 d2)
    obtain ⟨g, e3, _⟩ := h.sl d3
    have e1' := (h.c53 d1).trans e1
    have e2' := (h.c177 d2).trans e2
    have hrun := run_build (P := Tryd.prog) w 70 #[(0, .bool true), (2, .int .u64 0), (3, .map (some M1)), (4, .map (some M2)), (1, .slice (some ⟨g, 0, none⟩) 61 61)] #[.bool true, .slice (some ⟨g, 0, none⟩) 61 61, .int .u64 0, .map (some M1), .map (some M2)] (by kernel_rfl)
    refine wpOp_step o_240 (fun K hK => ?_)
    rw [if_pos (want rfl)]
    refine wp_val (v := .agg #[.bool true, .slice (some ⟨g, 0, none⟩) 61 61, .int .u64 0, .map (some M1), .map (some M2)]) (w' := w) ?_ (hK _ _ ⟨hsz, ?_⟩)
    · simp only [execOp, mkOp, Sem.run_bind, List.map_toArray, List.map_cons, List.map_nil, tm_eval e1', tm_eval e2', tm_eval e3]
      rw [show a.eval (.const (.bool true)) = .bool true from rfl, show a.eval (.const (.int .u64 0)) = .int .u64 0 from rfl, hrun]
      rfl
    have h' := h.put (d := 128) (.agg #[.bool true, .slice (some ⟨g, 0, none⟩) 61 61, .int .u64 0, .map (some M1), .map (some M2)]) (w' := w) ⟨fun _ => by omega, fun _ => by omega, fun _ => by omega, fun _ _ _ => by omega, fun _ => by omega, fun _ _ _ => by omega, fun _ => by omega, fun e => absurd e hn, fun _ => by omega, fun _ => by omega⟩ (Kept.refl _ _)
    refine h'.add 240 (fun e => absurd e (by omega)) (fun e => absurd e (by omega)) (by omega) (fun j e => by omega) (fun e => absurd e (by omega)) (fun e => absurd e (by omega)) (fun j p hp e => absurd e (by have := lt61 hp; omega)) (fun j p hp e => absurd e (by have := lt61 hp; omega)) (fun e => absurd e (by omega)) (fun _ => ⟨⟨d1, d2, d3⟩, M1, M2, g, by rw [tm_ne (by omega)]; exact e1', by rw [tm_ne (by omega)]; exact e2', by rw [tm_ne (by omega)]; exact e3, tm_same (by omega)⟩) (fun e => absurd e (by omega)) (fun e => absurd e (by omega))
  by_cases i9 : i = 241
  · subst i9
    rw [o_241] at ho
    have d1 := dep _ _ _ _ (Option.some.inj ho).symm 240 (by simp)
    obtain ⟨M1, M2, g, e1, e2, e3, e4⟩ := h.bd d1
    have hrun : (Instr.box 70 (.agg #[.bool true, .slice (some ⟨g, 0, none⟩) 61 61, .int .u64 0, .map (some M1), .map (some M2)])).run Tryd.prog w = .ok (.pointer (some ⟨w.heap.size, 0, none⟩)) (w.alloc (.cells [.bool true, .slice (some ⟨g, 0, none⟩) 61 61, .int .u64 0, .map (some M1), .map (some M2)].toArray 70)) := by kernel_rfl
    refine wpOp_step o_241 (fun K hK => ?_)
    rw [if_pos (want rfl)]
    refine wp_val (v := .pointer (some ⟨w.heap.size, 0, none⟩)) (w' := w.alloc (.cells [.bool true, .slice (some ⟨g, 0, none⟩) 61 61, .int .u64 0, .map (some M1), .map (some M2)].toArray 70)) ?_ (hK _ _ ⟨hsz, ?_⟩)
    · simp only [execOp, mkOp, Sem.run_bind, tm_eval e4, hrun]
      rfl
    have kw : Kept [] w (w.alloc (.cells [.bool true, .slice (some ⟨g, 0, none⟩) 61 61, .int .u64 0, .map (some M1), .map (some M2)].toArray 70)) := (Kept.refl _ _).alloc _
    have h242 : ¬ Lst listed 242 := fun e => hn (h.cl.2.2.2.2 e)
    have h' := h.put (d := 129) (.pointer (some ⟨w.heap.size, 0, none⟩)) (w' := w.alloc (.cells [.bool true, .slice (some ⟨g, 0, none⟩) 61 61, .int .u64 0, .map (some M1), .map (some M2)].toArray 70)) ⟨fun _ => by omega, fun _ => by omega, fun _ => by omega, fun _ _ _ => by omega, fun _ => by omega, fun _ _ _ => by omega, fun _ => by omega, fun _ => by omega, fun e => absurd e hn, fun e => absurd e h242⟩ kw
    refine h'.add 241 (fun e => absurd e (by omega)) (fun e => absurd e (by omega)) (by omega) (fun j e => by omega) (fun e => absurd e (by omega)) (fun e => absurd e (by omega)) (fun j p hp e => absurd e (by have := lt61 hp; omega)) (fun j p hp e => absurd e (by have := lt61 hp; omega)) (fun e => absurd e (by omega)) (fun e => absurd e (by omega)) (fun _ => ⟨d1, w.heap.size, M1, M2, g, by rw [tm_ne (by omega)]; exact e1, by rw [tm_ne (by omega)]; exact e2, by rw [tm_ne (by omega)]; exact e3, tm_same (by omega), h.kept.size, Blk.new w _ _⟩) (fun e => absurd e (by omega))
  have i10 : i = 242 := by omega
  subst i10
  have ho2 := o_242
  rw [ho] at ho2
  obtain ⟨dst, op, ty, pos, af, gd⟩ := o
  simp only [Option.map_some, Option.some.injEq, Prod.mk.injEq] at ho2
  obtain ⟨rfl, rfl, rfl, haf⟩ := ho2
  have d1 : Lst listed 241 := hdep { on := 241, ground := .data } (by
    have : ({ on := 241, ground := .data } : Edge) ∈ af.toList.take 1 := by rw [haf]; simp
    exact Array.mem_toList_iff.1 (List.mem_of_mem_take this)) (by rfl)
  obtain ⟨b, M1, M2, g, _, _, _, e4, _⟩ := h.bx d1
  refine wpOp_step ho (fun K hK => ?_)
  rw [if_pos (want rfl)]
  refine wp_val (v := a.eval (.tmp 129)) (w' := w) rfl (hK _ _ ⟨hsz, ?_⟩)
  have h' := h.put (d := 0) (a.eval (.tmp 129)) (w' := w) ⟨fun _ => by omega, fun _ => by omega, fun _ => by omega, fun _ _ _ => by omega, fun _ => by omega, fun _ _ _ => by omega, fun _ => by omega, fun _ => by omega, fun _ => by omega, fun e => absurd e hn⟩ (Kept.refl _ _)
  refine h'.add 242 (fun e => absurd e (by omega)) (fun e => absurd e (by omega)) (by omega) (fun j e => by omega) (fun e => absurd e (by omega)) (fun e => absurd e (by omega)) (fun j p hp e => absurd e (by have := lt61 hp; omega)) (fun j p hp e => absurd e (by have := lt61 hp; omega)) (fun e => absurd e (by omega)) (fun e => absurd e (by omega)) (fun e => absurd e (by omega)) (fun _ => ⟨d1, by rw [tm_same (by omega), tm_ne (by omega), e4, tm_eval e4]⟩)

/-- the static table, wherever it lies -/
def StatRep (w : World) (b : Nat) : Prop :=
  ∃ m1 m2 g al1 al2, Blk w b [.bool true, .slice (some ⟨g, 0, none⟩) 61 61, .int .u64 0, .map (some m1), .map (some m2)] 70 ∧ AMap kS w m1 al1 ∧ AMap kP w m2 al2 ∧ (∀ x, aget al1 x = idv (lastId (hasName x) st 1)) ∧ (∀ k, aget al2 k = idv (lastId (hasPair k) st 1)) ∧ Blk w g (st.flatMap fc) 50
theorem names_all : (stN.all fun x => decide (lastId (hasName x.1) st 1 = x.2) && decide (x.2 ≠ 0)) = true := by decide +kernel
theorem names_has : (st.all fun f => (stN.map (·.1)).any fun x => decide (x = f.name)) = true := by decide +kernel
theorem pairs_all : ((List.range 61).all fun j => ((stP[j]?).map fun p => decide (lastId (hasPair p) st 1 = j + 1)).getD false) = true := by decide +kernel
theorem lastId_none {p : Fld → Bool} : ∀ {l : List Fld} {i : Nat}, (∀ f ∈ l, p f = false) → lastId p l i = 0
  | [], _, _ => rfl
  | f :: r, i, h => by
    simp only [lastId]
    rw [lastId_none (fun g hg => h g (by simp [hg])), h f (by simp)]
    rfl

theorem stat_done {w0 : World} {df : List Deferred} {a : Act} {w : World} (h : Inv w0 df (fun k => k < 243) a w) : ∃ b, tm a 0 = some (.pointer (some ⟨b, 0, none⟩)) ∧ w0.heap.size ≤ b ∧ StatRep w b := by
  obtain ⟨M, al, e1, hM, A, U, c1, c2⟩ := h.m1 (by omega)
  obtain ⟨M2, al2, e2, hM2, A2, U2, d1, d2⟩ := h.m2 (by omega)
  obtain ⟨g, e3, hg, G⟩ := h.sl (by omega)
  obtain ⟨b, x, y, z, f1, f2, f3, f4, hb, B⟩ := h.bx (by omega)
  have q1 := (h.c53 (by omega)).trans e1
  have q2 := (h.c177 (by omega)).trans e2
  rw [f1] at q1; rw [f2] at q2; rw [f3] at e3
  cases q1; cases q2; cases e3
  refine ⟨b, (h.rt (by omega)).trans f4, hb, _, _, _, al, al2, B, A, A2, fun k => ?_, fun k => ?_, G⟩
  · by_cases hk : ∃ v, (k, v) ∈ stN
    · obtain ⟨v, hv⟩ := hk
      obtain ⟨j, hj⟩ := List.mem_iff_getElem?.1 hv
      rw [c1 j _ hj (by have := lt52 hj; omega)]
      have := List.all_eq_true.1 names_all _ hv
      simp only [Bool.and_eq_true, decide_eq_true_eq] at this
      rw [this.1]; unfold idv; rw [if_neg this.2]
    · rw [c2 k fun j x hx _ e => hk ⟨x.2, by rw [← e]; exact List.mem_of_getElem? hx⟩]
      rw [lastId_none]
      · rfl
      · intro f hf
        have := List.all_eq_true.1 names_has _ hf
        simp only [hasName, decide_eq_false_iff_not]
        intro e
        rw [e] at this
        obtain ⟨y, hy, ey⟩ := List.any_eq_true.1 this
        obtain ⟨x, hx, ex⟩ := List.mem_map.1 hy
        exact hk ⟨x.2, by rw [← of_decide_eq_true ey, ← ex]; exact hx⟩
  · by_cases hk : k ∈ stP
    · obtain ⟨j, hj⟩ := List.mem_iff_getElem?.1 hk
      rw [d1 j _ hj (by have := lt61 hj; omega)]
      have := List.all_eq_true.1 pairs_all j (List.mem_range.2 (lt61 hj))
      rw [hj] at this
      simp only [Option.map_some, Option.getD_some, decide_eq_true_eq] at this
      rw [this]; unfold idv; rw [if_neg (by omega)]; rfl
    · rw [d2 k fun j x hx _ e => hk (by rw [← e]; exact List.mem_of_getElem? hx)]
      rw [lastId_none]
      · rfl
      · intro f hf
        obtain ⟨p, hp, rfl⟩ := List.mem_map.1 hf
        simp only [hasPair, decide_eq_false_iff_not]
        intro e
        exact hk (by rw [show k = p from Prod.ext e.1.symm e.2.symm]; exact hp)

theorem inv_start (w0 : World) (a : Act) (h : a.tmps.size = 130) : St45 w0 a.defers (Array.replicate 243 false) a w0.drew := by
  have hL : ∀ k, ¬ Lst (Array.replicate 243 false) k := by
    intro k hk; unfold Lst at hk
    by_cases e : k < 243
    · simp [e] at hk
    · simp [e] at hk
  refine ⟨by simp, ?_⟩
  exact {
    tsz := h, df := rfl, kept := (Kept.refl _ _).drew
    m1 := fun e => absurd e (hL _), m2 := fun e => absurd e (hL _), ne := fun e => absurd e (hL _)
    cl := ⟨fun e => absurd e (hL _), fun e => absurd e (hL _), fun e => absurd e (hL _), fun e => absurd e (hL _), fun e => absurd e (hL _)⟩
    ci := ⟨fun _ _ e => absurd e (hL _), fun _ _ e => absurd e (hL _)⟩
    c53 := fun e => absurd e (hL _), c177 := fun e => absurd e (hL _)
    bp := fun _ _ _ e => absurd e (hL _), bf := fun _ _ _ e => absurd e (hL _)
    sl := fun e => absurd e (hL _), bd := fun e => absurd e (hL _), bx := fun e => absurd e (hL _), rt := fun e => absurd e (hL _) }

set_option maxRecDepth 20000 in
theorem region45 {id : Nat} {Q : Exit → Act → World → Prop} {a : Act} {w : World} (h : a.tmps.size = 130) (hQ : ∀ a' w' b, a'.tmps.size = 130 → a'.defers = a.defers → tm a' 0 = some (.pointer (some ⟨b, 0, none⟩)) → w.heap.size ≤ b → StatRep w' b → Kept [] w w' → Q .normal a' w') :
    (Code.region id ops45 true).wp Tryd.prog Q a w := by
  refine wp_region_any (by kernel_rfl) ?_
  rw [o_len]
  refine wpAny_inv (St45 w a.defers) (fun listed a' w' i h' hr => inv_step w a.defers listed a' w' i h' hr) (fun listed a' w' h' hr => ?_) _ _ _ _ (by rw [Array.toList_replicate]; exact Nat.le_trans List.countP_le_length (by rw [List.length_replicate]; exact Nat.le_refl _)) (inv_start w a h)
  have hall := all_listed (ops := ops45) (md := .any) (by rw [o_len]; exact o_acyc) hr (by rw [o_len]; exact h'.1)
  rw [o_len] at hall
  have he : Lst listed = fun k => k < 243 := by
    funext k; apply propext
    constructor
    · intro hk
      apply Nat.lt_of_not_le; intro hge
      have : ¬ k < listed.size := by have := h'.1; omega
      unfold Lst at hk; simp [this] at hk
    · exact fun hk => hall k hk
  have h2 := h'.2
  rw [he] at h2
  obtain ⟨b, h3, h4, h5⟩ := stat_done h2
  exact hQ a' w' b h2.tsz h2.df h3 h4 h5 h2.kept

set_option maxRecDepth 100000 in
theorem static_any (w : World) : Calls Tryd.prog 45 #[] w fun e w' => ∃ b, e = .returned (.pointer (some ⟨b, 0, none⟩)) ∧ w.heap.size ≤ b ∧ StatRep w' b ∧ Kept [] w w' := by
  go_enter Tryd.func45, Tryd.ntmps45
  go_wp2_with fail
  refine region45 (by rfl) ?_
  intro a' w' b h1 h2 h3 h4 h5 h6
  rename_i hK
  refine hK _ _ ?_
  go_wp2_with fail
  refine bodyPost_ret (results_tmp rfl _ _ _) h2 ⟨b, ?_, h4, h5, h6⟩
  have : a'.tmps.getD 0 undef = .pointer (some ⟨b, 0, none⟩) := by
    unfold tm at h3; simp [h3]
  rw [this]
end Go.Proofs.YtoceghdnipjkfaaDoor
