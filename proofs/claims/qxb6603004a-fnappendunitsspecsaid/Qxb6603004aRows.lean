/-
  No cell of these rows narrows 'for every input' (looked for: loops, veiled, ifaces, maps, wideKeys, modest, calm, conditions, laid).
  DERIVED. THE GIVEN ROWS OF THIS SEAT. 6 by the template 'for every input the law returns true; each argument reads behind the call as it read before'; 0 by the template 'total and deterministic' (their statements: Qxb6603004aTotals.lean).
  GIVEN WITH THE SEED: the statements are not yours to turn. If you find one false, say at which input.
  Laid BY PROGRAM, IN A SANDBOX (cutbox-rows.mjs): the forced cells as the released guide's own fill.sh prints them over the translation e7b5792cb527ebb2… (all of the seat's roots in one cut). By AI agents, Wed Nov 11 2026. No macro, syntax, notation, axiom, sorry.
-/
import Derived.Test.Qxb6603004aChecked
import GoSem.Claim
import GoSem.ClaimJoined
import GoSem.ClaimMapViews
import Derived.JoinedTies
import Derived.KernelRfl
namespace Go.Proofs.Qxb6603004a
/- THE CELL 'sum', in the pinned program and in every row, IS THE sha256 OF THE DUMP (.gsa) THAT Qxb6603004aProg.lean LOADS. Nothing in Lean hashes anything: it is a label: what it is worth is what the hold of that sum in a sandbox is worth. -/
noncomputable def Try.pinned : Pinned := { name := "qxb6603004a", sum := "e7b5792cb527ebb2615a48e38d97efca3c347c4a1d41ca77423d6ae05eaedf27", checked := Try.checked }
namespace Rows
def none {H : Type} : Left H := { results := [], args := [] }

/-- 'zzlaws_root_b1.FnDigitsValueSpec': WHATEVER THE INPUT: true; the input reads as it did. -/
def fnDigitsValueSpecSpec : ChangeSpec := { name := "fnDigitsValueSpec", fn := fun _ => fun
  | [d1, d2, d3] => { results := [.lit (.bool true)], args := [d1, d2, d3] }
  | _ => none }
def fnDigitsValueSpecRow : OpenClaim := { program := "qxb6603004a", sum := "e7b5792cb527ebb2615a48e38d97efca3c347c4a1d41ca77423d6ae05eaedf27", func := "example.com/zhaomu/zhaomu/zzlaws_root_b1.FnDigitsValueSpec", spec := "fnDigitsValueSpec", apart := false }
def FnDigitsValueSpecSaid : Prop := fnDigitsValueSpecRow.holds Try.pinned (OpenSpec.ofChange fnDigitsValueSpecSpec)

/-- ITS FALSE NEIGHBOUR: 'it returns false'. Refute it at one input. -/
def fnDigitsValueSpecWrong : ChangeSpec := { name := "fnDigitsValueSpec", fn := fun _ => fun
  | [d1, d2, d3] => { results := [.lit (.bool false)], args := [d1, d2, d3] }
  | _ => none }
def FnDigitsValueSpecWrongFalsely : Prop := fnDigitsValueSpecRow.holds Try.pinned (OpenSpec.ofChange fnDigitsValueSpecWrong)

/-- 'zzlaws_root_b1.FnDigitsValueSplit': WHATEVER THE INPUT: true; the input reads as it did. -/
def fnDigitsValueSplitSpec : ChangeSpec := { name := "fnDigitsValueSplit", fn := fun _ => fun
  | [d1, d2, d3, d4] => { results := [.lit (.bool true)], args := [d1, d2, d3, d4] }
  | _ => none }
def fnDigitsValueSplitRow : OpenClaim := { program := "qxb6603004a", sum := "e7b5792cb527ebb2615a48e38d97efca3c347c4a1d41ca77423d6ae05eaedf27", func := "example.com/zhaomu/zhaomu/zzlaws_root_b1.FnDigitsValueSplit", spec := "fnDigitsValueSplit", apart := false }
def FnDigitsValueSplitSaid : Prop := fnDigitsValueSplitRow.holds Try.pinned (OpenSpec.ofChange fnDigitsValueSplitSpec)

/-- ITS FALSE NEIGHBOUR: 'it returns false'. Refute it at one input. -/
def fnDigitsValueSplitWrong : ChangeSpec := { name := "fnDigitsValueSplit", fn := fun _ => fun
  | [d1, d2, d3, d4] => { results := [.lit (.bool false)], args := [d1, d2, d3, d4] }
  | _ => none }
def FnDigitsValueSplitWrongFalsely : Prop := fnDigitsValueSplitRow.holds Try.pinned (OpenSpec.ofChange fnDigitsValueSplitWrong)

/-- 'zzlaws_root_b1.FnAppendUnitsSpec': WHATEVER THE INPUT: true; the input reads as it did. -/
def fnAppendUnitsSpecSpec : ChangeSpec := { name := "fnAppendUnitsSpec", fn := fun _ => fun
  | [d1, d2, d3] => { results := [.lit (.bool true)], args := [d1, d2, d3] }
  | _ => none }
def fnAppendUnitsSpecRow : OpenClaim := { program := "qxb6603004a", sum := "e7b5792cb527ebb2615a48e38d97efca3c347c4a1d41ca77423d6ae05eaedf27", func := "example.com/zhaomu/zhaomu/zzlaws_root_b1.FnAppendUnitsSpec", spec := "fnAppendUnitsSpec", apart := false }
def FnAppendUnitsSpecSaid : Prop := fnAppendUnitsSpecRow.holds Try.pinned (OpenSpec.ofChange fnAppendUnitsSpecSpec)

/-- ITS FALSE NEIGHBOUR: 'it returns false'. Refute it at one input. -/
def fnAppendUnitsSpecWrong : ChangeSpec := { name := "fnAppendUnitsSpec", fn := fun _ => fun
  | [d1, d2, d3] => { results := [.lit (.bool false)], args := [d1, d2, d3] }
  | _ => none }
def FnAppendUnitsSpecWrongFalsely : Prop := fnAppendUnitsSpecRow.holds Try.pinned (OpenSpec.ofChange fnAppendUnitsSpecWrong)

/-- 'zzlaws_root_b1.FnUnitsReadBack': WHATEVER THE INPUT: true; the input reads as it did. -/
def fnUnitsReadBackSpec : ChangeSpec := { name := "fnUnitsReadBack", fn := fun _ => fun
  | [d1, d2, d3] => { results := [.lit (.bool true)], args := [d1, d2, d3] }
  | _ => none }
def fnUnitsReadBackRow : OpenClaim := { program := "qxb6603004a", sum := "e7b5792cb527ebb2615a48e38d97efca3c347c4a1d41ca77423d6ae05eaedf27", func := "example.com/zhaomu/zhaomu/zzlaws_root_b1.FnUnitsReadBack", spec := "fnUnitsReadBack", apart := false }
def FnUnitsReadBackSaid : Prop := fnUnitsReadBackRow.holds Try.pinned (OpenSpec.ofChange fnUnitsReadBackSpec)

/-- ITS FALSE NEIGHBOUR: 'it returns false'. Refute it at one input. -/
def fnUnitsReadBackWrong : ChangeSpec := { name := "fnUnitsReadBack", fn := fun _ => fun
  | [d1, d2, d3] => { results := [.lit (.bool false)], args := [d1, d2, d3] }
  | _ => none }
def FnUnitsReadBackWrongFalsely : Prop := fnUnitsReadBackRow.holds Try.pinned (OpenSpec.ofChange fnUnitsReadBackWrong)

/-- 'zzlaws_root_b1.FnMagnitudeSymmetric': WHATEVER THE INPUT: true; the input reads as it did. -/
def fnMagnitudeSymmetricSpec : ChangeSpec := { name := "fnMagnitudeSymmetric", fn := fun _ => fun
  | [d] => { results := [.lit (.bool true)], args := [d] }
  | _ => none }
def fnMagnitudeSymmetricRow : OpenClaim := { program := "qxb6603004a", sum := "e7b5792cb527ebb2615a48e38d97efca3c347c4a1d41ca77423d6ae05eaedf27", func := "example.com/zhaomu/zhaomu/zzlaws_root_b1.FnMagnitudeSymmetric", spec := "fnMagnitudeSymmetric", apart := false }
def FnMagnitudeSymmetricSaid : Prop := fnMagnitudeSymmetricRow.holds Try.pinned (OpenSpec.ofChange fnMagnitudeSymmetricSpec)

/-- ITS FALSE NEIGHBOUR: 'it returns false'. Refute it at one input. -/
def fnMagnitudeSymmetricWrong : ChangeSpec := { name := "fnMagnitudeSymmetric", fn := fun _ => fun
  | [d] => { results := [.lit (.bool false)], args := [d] }
  | _ => none }
def FnMagnitudeSymmetricWrongFalsely : Prop := fnMagnitudeSymmetricRow.holds Try.pinned (OpenSpec.ofChange fnMagnitudeSymmetricWrong)

/-- 'zzlaws_root_b1.FnMagnitudeTriangle': WHATEVER THE INPUT: true; the input reads as it did. -/
def fnMagnitudeTriangleSpec : ChangeSpec := { name := "fnMagnitudeTriangle", fn := fun _ => fun
  | [d1, d2] => { results := [.lit (.bool true)], args := [d1, d2] }
  | _ => none }
def fnMagnitudeTriangleRow : OpenClaim := { program := "qxb6603004a", sum := "e7b5792cb527ebb2615a48e38d97efca3c347c4a1d41ca77423d6ae05eaedf27", func := "example.com/zhaomu/zhaomu/zzlaws_root_b1.FnMagnitudeTriangle", spec := "fnMagnitudeTriangle", apart := false }
def FnMagnitudeTriangleSaid : Prop := fnMagnitudeTriangleRow.holds Try.pinned (OpenSpec.ofChange fnMagnitudeTriangleSpec)

/-- ITS FALSE NEIGHBOUR: 'it returns false'. Refute it at one input. -/
def fnMagnitudeTriangleWrong : ChangeSpec := { name := "fnMagnitudeTriangle", fn := fun _ => fun
  | [d1, d2] => { results := [.lit (.bool false)], args := [d1, d2] }
  | _ => none }
def FnMagnitudeTriangleWrongFalsely : Prop := fnMagnitudeTriangleRow.holds Try.pinned (OpenSpec.ofChange fnMagnitudeTriangleWrong)

end Rows
end Go.Proofs.Qxb6603004a
