/-
  No cell of these rows narrows 'for every input' (looked for: loops, veiled, ifaces, maps, wideKeys, modest, calm, conditions, laid).
  DERIVED. THE GIVEN ROWS OF THIS SEAT. 6 by the template 'for every input the law returns true; each argument reads behind the call as it read before'; 0 by the template 'total and deterministic' (their statements: Qxb6600600aModsTotals.lean).
  GIVEN WITH THE SEED: the statements are not yours to turn. If you find one false, say at which input.
  Laid BY PROGRAM, IN A SANDBOX (cutbox-rows.mjs): the forced cells as the released guide's own fill.sh prints them over the translation a68d592c9836b52d… (all of the seat's roots in one cut). By AI agents, Wed Nov 11 2026. No macro, syntax, notation, axiom, sorry.
-/
import Derived.Test.Qxb6600600aModsChecked
import GoSem.Claim
import GoSem.ClaimJoined
import GoSem.ClaimMapViews
import Derived.JoinedTies
import Derived.KernelRfl
namespace Go.Proofs.Qxb6600600aMods
/- THE CELL 'sum', in the pinned program and in every row, IS THE sha256 OF THE DUMP (.gsa) THAT Qxb6600600aModsProg.lean LOADS. Nothing in Lean hashes anything: it is a label: what it is worth is what the hold of that sum in a sandbox is worth. -/
noncomputable def Trym.pinned : Pinned := { name := "qxb6600600amods", sum := "a68d592c9836b52de809bbd0950b5b510c0dddf7f21456c19aba6187fa140eb1", checked := Trym.checked }
namespace Rows
def none {H : Type} : Left H := { results := [], args := [] }

/-- 'zzlaws_pkg_store_b1.FnKeptStringEndAgreesWithEscapeScan': WHATEVER THE INPUT: true; the input reads as it did. -/
def fnKeptStringEndAgreesWithEscapeScanSpec : ChangeSpec := { name := "fnKeptStringEndAgreesWithEscapeScan", fn := fun _ => fun
  | [d1, d2] => { results := [.lit (.bool true)], args := [d1, d2] }
  | _ => none }
def fnKeptStringEndAgreesWithEscapeScanRow : OpenClaim := { program := "qxb6600600amods", sum := "a68d592c9836b52de809bbd0950b5b510c0dddf7f21456c19aba6187fa140eb1", func := "example.com/stillstone/stillstone/zzlaws_pkg_store_b1.FnKeptStringEndAgreesWithEscapeScan", spec := "fnKeptStringEndAgreesWithEscapeScan", inPlace := ["internal/bytealg.IndexByte"], make := .lifted ["publicsums"], apart := false }
def FnKeptStringEndAgreesWithEscapeScanSaid : Prop := fnKeptStringEndAgreesWithEscapeScanRow.holds Trym.pinned (OpenSpec.ofChange fnKeptStringEndAgreesWithEscapeScanSpec)

/-- ITS FALSE NEIGHBOUR: 'it returns false'. Refute it at one input. -/
def fnKeptStringEndAgreesWithEscapeScanWrong : ChangeSpec := { name := "fnKeptStringEndAgreesWithEscapeScan", fn := fun _ => fun
  | [d1, d2] => { results := [.lit (.bool false)], args := [d1, d2] }
  | _ => none }
def FnKeptStringEndAgreesWithEscapeScanWrongFalsely : Prop := fnKeptStringEndAgreesWithEscapeScanRow.holds Trym.pinned (OpenSpec.ofChange fnKeptStringEndAgreesWithEscapeScanWrong)

/-- 'zzlaws_pkg_store_b1.FnKeptStringEndFindsTheCloseOfAnEncodedString': WHATEVER THE INPUT: true; the input reads as it did. -/
def fnKeptStringEndFindsTheCloseOfAnEncodedStringSpec : ChangeSpec := { name := "fnKeptStringEndFindsTheCloseOfAnEncodedString", fn := fun _ => fun
  | [d1, d2, d3] => { results := [.lit (.bool true)], args := [d1, d2, d3] }
  | _ => none }
def fnKeptStringEndFindsTheCloseOfAnEncodedStringRow : OpenClaim := { program := "qxb6600600amods", sum := "a68d592c9836b52de809bbd0950b5b510c0dddf7f21456c19aba6187fa140eb1", func := "example.com/stillstone/stillstone/zzlaws_pkg_store_b1.FnKeptStringEndFindsTheCloseOfAnEncodedString", spec := "fnKeptStringEndFindsTheCloseOfAnEncodedString", inPlace := ["internal/bytealg.IndexByte"], make := .lifted ["publicsums"], apart := false }
def FnKeptStringEndFindsTheCloseOfAnEncodedStringSaid : Prop := fnKeptStringEndFindsTheCloseOfAnEncodedStringRow.holds Trym.pinned (OpenSpec.ofChange fnKeptStringEndFindsTheCloseOfAnEncodedStringSpec)

/-- ITS FALSE NEIGHBOUR: 'it returns false'. Refute it at one input. -/
def fnKeptStringEndFindsTheCloseOfAnEncodedStringWrong : ChangeSpec := { name := "fnKeptStringEndFindsTheCloseOfAnEncodedString", fn := fun _ => fun
  | [d1, d2, d3] => { results := [.lit (.bool false)], args := [d1, d2, d3] }
  | _ => none }
def FnKeptStringEndFindsTheCloseOfAnEncodedStringWrongFalsely : Prop := fnKeptStringEndFindsTheCloseOfAnEncodedStringRow.holds Trym.pinned (OpenSpec.ofChange fnKeptStringEndFindsTheCloseOfAnEncodedStringWrong)

/-- 'zzlaws_pkg_store_b1.FnKeptStringEndIgnoresWhatLiesBefore': WHATEVER THE INPUT: true; the input reads as it did. -/
def fnKeptStringEndIgnoresWhatLiesBeforeSpec : ChangeSpec := { name := "fnKeptStringEndIgnoresWhatLiesBefore", fn := fun _ => fun
  | [d1, d2, d3] => { results := [.lit (.bool true)], args := [d1, d2, d3] }
  | _ => none }
def fnKeptStringEndIgnoresWhatLiesBeforeRow : OpenClaim := { program := "qxb6600600amods", sum := "a68d592c9836b52de809bbd0950b5b510c0dddf7f21456c19aba6187fa140eb1", func := "example.com/stillstone/stillstone/zzlaws_pkg_store_b1.FnKeptStringEndIgnoresWhatLiesBefore", spec := "fnKeptStringEndIgnoresWhatLiesBefore", inPlace := ["internal/bytealg.IndexByte"], make := .lifted ["publicsums"], apart := false }
def FnKeptStringEndIgnoresWhatLiesBeforeSaid : Prop := fnKeptStringEndIgnoresWhatLiesBeforeRow.holds Trym.pinned (OpenSpec.ofChange fnKeptStringEndIgnoresWhatLiesBeforeSpec)

/-- ITS FALSE NEIGHBOUR: 'it returns false'. Refute it at one input. -/
def fnKeptStringEndIgnoresWhatLiesBeforeWrong : ChangeSpec := { name := "fnKeptStringEndIgnoresWhatLiesBefore", fn := fun _ => fun
  | [d1, d2, d3] => { results := [.lit (.bool false)], args := [d1, d2, d3] }
  | _ => none }
def FnKeptStringEndIgnoresWhatLiesBeforeWrongFalsely : Prop := fnKeptStringEndIgnoresWhatLiesBeforeRow.holds Trym.pinned (OpenSpec.ofChange fnKeptStringEndIgnoresWhatLiesBeforeWrong)

/-- 'zzlaws_pkg_store_b1.FnKeptValueEndAgreesWithRoleTable': WHATEVER THE INPUT: true; the input reads as it did. -/
def fnKeptValueEndAgreesWithRoleTableSpec : ChangeSpec := { name := "fnKeptValueEndAgreesWithRoleTable", fn := fun _ => fun
  | [d] => { results := [.lit (.bool true)], args := [d] }
  | _ => none }
def fnKeptValueEndAgreesWithRoleTableRow : OpenClaim := { program := "qxb6600600amods", sum := "a68d592c9836b52de809bbd0950b5b510c0dddf7f21456c19aba6187fa140eb1", func := "example.com/stillstone/stillstone/zzlaws_pkg_store_b1.FnKeptValueEndAgreesWithRoleTable", spec := "fnKeptValueEndAgreesWithRoleTable", inPlace := ["internal/bytealg.IndexByte"], make := .lifted ["publicsums"], apart := false }
def FnKeptValueEndAgreesWithRoleTableSaid : Prop := fnKeptValueEndAgreesWithRoleTableRow.holds Trym.pinned (OpenSpec.ofChange fnKeptValueEndAgreesWithRoleTableSpec)

/-- ITS FALSE NEIGHBOUR: 'it returns false'. Refute it at one input. -/
def fnKeptValueEndAgreesWithRoleTableWrong : ChangeSpec := { name := "fnKeptValueEndAgreesWithRoleTable", fn := fun _ => fun
  | [d] => { results := [.lit (.bool false)], args := [d] }
  | _ => none }
def FnKeptValueEndAgreesWithRoleTableWrongFalsely : Prop := fnKeptValueEndAgreesWithRoleTableRow.holds Trym.pinned (OpenSpec.ofChange fnKeptValueEndAgreesWithRoleTableWrong)

/-- 'zzlaws_pkg_store_b1.FnKeptValueEndStopsJustPastAnEncodedContainer': WHATEVER THE INPUT: true; the input reads as it did. -/
def fnKeptValueEndStopsJustPastAnEncodedContainerSpec : ChangeSpec := { name := "fnKeptValueEndStopsJustPastAnEncodedContainer", fn := fun _ => fun
  | [d1, d2, d3] => { results := [.lit (.bool true)], args := [d1, d2, d3] }
  | _ => none }
def fnKeptValueEndStopsJustPastAnEncodedContainerRow : OpenClaim := { program := "qxb6600600amods", sum := "a68d592c9836b52de809bbd0950b5b510c0dddf7f21456c19aba6187fa140eb1", func := "example.com/stillstone/stillstone/zzlaws_pkg_store_b1.FnKeptValueEndStopsJustPastAnEncodedContainer", spec := "fnKeptValueEndStopsJustPastAnEncodedContainer", inPlace := ["internal/bytealg.IndexByte"], make := .lifted ["publicsums"], apart := false }
def FnKeptValueEndStopsJustPastAnEncodedContainerSaid : Prop := fnKeptValueEndStopsJustPastAnEncodedContainerRow.holds Trym.pinned (OpenSpec.ofChange fnKeptValueEndStopsJustPastAnEncodedContainerSpec)

/-- ITS FALSE NEIGHBOUR: 'it returns false'. Refute it at one input. -/
def fnKeptValueEndStopsJustPastAnEncodedContainerWrong : ChangeSpec := { name := "fnKeptValueEndStopsJustPastAnEncodedContainer", fn := fun _ => fun
  | [d1, d2, d3] => { results := [.lit (.bool false)], args := [d1, d2, d3] }
  | _ => none }
def FnKeptValueEndStopsJustPastAnEncodedContainerWrongFalsely : Prop := fnKeptValueEndStopsJustPastAnEncodedContainerRow.holds Trym.pinned (OpenSpec.ofChange fnKeptValueEndStopsJustPastAnEncodedContainerWrong)

/-- 'zzlaws_pkg_store_b1.FnKeptValueEndIsUnmovedByWhatFollowsItsEnd': WHATEVER THE INPUT: true; the input reads as it did. -/
def fnKeptValueEndIsUnmovedByWhatFollowsItsEndSpec : ChangeSpec := { name := "fnKeptValueEndIsUnmovedByWhatFollowsItsEnd", fn := fun _ => fun
  | [d1, d2] => { results := [.lit (.bool true)], args := [d1, d2] }
  | _ => none }
def fnKeptValueEndIsUnmovedByWhatFollowsItsEndRow : OpenClaim := { program := "qxb6600600amods", sum := "a68d592c9836b52de809bbd0950b5b510c0dddf7f21456c19aba6187fa140eb1", func := "example.com/stillstone/stillstone/zzlaws_pkg_store_b1.FnKeptValueEndIsUnmovedByWhatFollowsItsEnd", spec := "fnKeptValueEndIsUnmovedByWhatFollowsItsEnd", inPlace := ["internal/bytealg.IndexByte"], make := .lifted ["publicsums"], apart := false }
def FnKeptValueEndIsUnmovedByWhatFollowsItsEndSaid : Prop := fnKeptValueEndIsUnmovedByWhatFollowsItsEndRow.holds Trym.pinned (OpenSpec.ofChange fnKeptValueEndIsUnmovedByWhatFollowsItsEndSpec)

/-- ITS FALSE NEIGHBOUR: 'it returns false'. Refute it at one input. -/
def fnKeptValueEndIsUnmovedByWhatFollowsItsEndWrong : ChangeSpec := { name := "fnKeptValueEndIsUnmovedByWhatFollowsItsEnd", fn := fun _ => fun
  | [d1, d2] => { results := [.lit (.bool false)], args := [d1, d2] }
  | _ => none }
def FnKeptValueEndIsUnmovedByWhatFollowsItsEndWrongFalsely : Prop := fnKeptValueEndIsUnmovedByWhatFollowsItsEndRow.holds Trym.pinned (OpenSpec.ofChange fnKeptValueEndIsUnmovedByWhatFollowsItsEndWrong)

end Rows
end Go.Proofs.Qxb6600600aMods
