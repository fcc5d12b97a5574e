/-
  No cell of these rows narrows 'for every input' (looked for: loops, veiled, ifaces, maps, wideKeys, modest, calm, conditions, laid).
  DERIVED. THE GIVEN ROWS OF THIS SEAT. 7 by the template 'for every input the law returns true; each argument reads behind the call as it read before'; 0 by the template 'total and deterministic' (their statements: Qxb6601660aModsTotals.lean).
  GIVEN WITH THE SEED: the statements are not yours to turn. If you find one false, say at which input.
  Laid BY PROGRAM, IN A SANDBOX (cutbox-rows.mjs): the forced cells as the released guide's own fill.sh prints them over the translation d68617a9fe598617… (all of the seat's roots in one cut). By AI agents, Wed Nov 11 2026. No macro, syntax, notation, axiom, sorry.
-/
import Derived.Test.Qxb6601660aModsChecked
import GoSem.Claim
import GoSem.ClaimJoined
import GoSem.ClaimMapViews
import Derived.JoinedTies
import Derived.KernelRfl
namespace Go.Proofs.Qxb6601660aMods
/- THE CELL 'sum', in the pinned program and in every row, IS THE sha256 OF THE DUMP (.gsa) THAT Qxb6601660aModsProg.lean LOADS. Nothing in Lean hashes anything: it is a label: what it is worth is what the hold of that sum in a sandbox is worth. -/
noncomputable def Trym.pinned : Pinned := { name := "qxb6601660amods", sum := "d68617a9fe5986176783de47c1e1df6130b68235497b89d46553b43db110e055", checked := Trym.checked }
namespace Rows
def none {H : Type} : Left H := { results := [], args := [] }

/-- 'zzlaws_mcpserver_b1.FnSkipSpaceSpec': WHATEVER THE INPUT: true; the input reads as it did. -/
def fnSkipSpaceSpecSpec : ChangeSpec := { name := "fnSkipSpaceSpec", fn := fun _ => fun
  | [d1, d2] => { results := [.lit (.bool true)], args := [d1, d2] }
  | _ => none }
def fnSkipSpaceSpecRow : OpenClaim := { program := "qxb6601660amods", sum := "d68617a9fe5986176783de47c1e1df6130b68235497b89d46553b43db110e055", func := "example.com/ariel/ariel/zzlaws_mcpserver_b1.FnSkipSpaceSpec", spec := "fnSkipSpaceSpec", make := .lifted ["publicsums"], apart := false }
def FnSkipSpaceSpecSaid : Prop := fnSkipSpaceSpecRow.holds Trym.pinned (OpenSpec.ofChange fnSkipSpaceSpecSpec)

/-- ITS FALSE NEIGHBOUR: 'it returns false'. Refute it at one input. -/
def fnSkipSpaceSpecWrong : ChangeSpec := { name := "fnSkipSpaceSpec", fn := fun _ => fun
  | [d1, d2] => { results := [.lit (.bool false)], args := [d1, d2] }
  | _ => none }
def FnSkipSpaceSpecWrongFalsely : Prop := fnSkipSpaceSpecRow.holds Trym.pinned (OpenSpec.ofChange fnSkipSpaceSpecWrong)

/-- 'zzlaws_mcpserver_b1.FnSkipSpaceMonotoneAndSettles': WHATEVER THE INPUT: true; the input reads as it did. -/
def fnSkipSpaceMonotoneAndSettlesSpec : ChangeSpec := { name := "fnSkipSpaceMonotoneAndSettles", fn := fun _ => fun
  | [d1, d2, d3] => { results := [.lit (.bool true)], args := [d1, d2, d3] }
  | _ => none }
def fnSkipSpaceMonotoneAndSettlesRow : OpenClaim := { program := "qxb6601660amods", sum := "d68617a9fe5986176783de47c1e1df6130b68235497b89d46553b43db110e055", func := "example.com/ariel/ariel/zzlaws_mcpserver_b1.FnSkipSpaceMonotoneAndSettles", spec := "fnSkipSpaceMonotoneAndSettles", make := .lifted ["publicsums"], apart := false }
def FnSkipSpaceMonotoneAndSettlesSaid : Prop := fnSkipSpaceMonotoneAndSettlesRow.holds Trym.pinned (OpenSpec.ofChange fnSkipSpaceMonotoneAndSettlesSpec)

/-- ITS FALSE NEIGHBOUR: 'it returns false'. Refute it at one input. -/
def fnSkipSpaceMonotoneAndSettlesWrong : ChangeSpec := { name := "fnSkipSpaceMonotoneAndSettles", fn := fun _ => fun
  | [d1, d2, d3] => { results := [.lit (.bool false)], args := [d1, d2, d3] }
  | _ => none }
def FnSkipSpaceMonotoneAndSettlesWrongFalsely : Prop := fnSkipSpaceMonotoneAndSettlesRow.holds Trym.pinned (OpenSpec.ofChange fnSkipSpaceMonotoneAndSettlesWrong)

/-- 'zzlaws_mcpserver_b1.FnUnescapeASCIIMatchesTable': WHATEVER THE INPUT: true; the input reads as it did. -/
def fnUnescapeASCIIMatchesTableSpec : ChangeSpec := { name := "fnUnescapeASCIIMatchesTable", fn := fun _ => fun
  | [d] => { results := [.lit (.bool true)], args := [d] }
  | _ => none }
def fnUnescapeASCIIMatchesTableRow : OpenClaim := { program := "qxb6601660amods", sum := "d68617a9fe5986176783de47c1e1df6130b68235497b89d46553b43db110e055", func := "example.com/ariel/ariel/zzlaws_mcpserver_b1.FnUnescapeASCIIMatchesTable", spec := "fnUnescapeASCIIMatchesTable", inPlace := ["internal/bytealg.IndexByteString"], make := .lifted ["publicsums"], apart := false }
def FnUnescapeASCIIMatchesTableSaid : Prop := fnUnescapeASCIIMatchesTableRow.holds Trym.pinned (OpenSpec.ofChange fnUnescapeASCIIMatchesTableSpec)

/-- ITS FALSE NEIGHBOUR: 'it returns false'. Refute it at one input. -/
def fnUnescapeASCIIMatchesTableWrong : ChangeSpec := { name := "fnUnescapeASCIIMatchesTable", fn := fun _ => fun
  | [d] => { results := [.lit (.bool false)], args := [d] }
  | _ => none }
def FnUnescapeASCIIMatchesTableWrongFalsely : Prop := fnUnescapeASCIIMatchesTableRow.holds Trym.pinned (OpenSpec.ofChange fnUnescapeASCIIMatchesTableWrong)

/-- 'zzlaws_mcpserver_b1.FnUnescapeASCIIEncodeRoundTrip': WHATEVER THE INPUT: true; the input reads as it did. -/
def fnUnescapeASCIIEncodeRoundTripSpec : ChangeSpec := { name := "fnUnescapeASCIIEncodeRoundTrip", fn := fun _ => fun
  | [d1, d2, d3, d4] => { results := [.lit (.bool true)], args := [d1, d2, d3, d4] }
  | _ => none }
def fnUnescapeASCIIEncodeRoundTripRow : OpenClaim := { program := "qxb6601660amods", sum := "d68617a9fe5986176783de47c1e1df6130b68235497b89d46553b43db110e055", func := "example.com/ariel/ariel/zzlaws_mcpserver_b1.FnUnescapeASCIIEncodeRoundTrip", spec := "fnUnescapeASCIIEncodeRoundTrip", inPlace := ["internal/bytealg.IndexByteString"], make := .lifted ["publicsums"], apart := false }
def FnUnescapeASCIIEncodeRoundTripSaid : Prop := fnUnescapeASCIIEncodeRoundTripRow.holds Trym.pinned (OpenSpec.ofChange fnUnescapeASCIIEncodeRoundTripSpec)

/-- ITS FALSE NEIGHBOUR: 'it returns false'. Refute it at one input. -/
def fnUnescapeASCIIEncodeRoundTripWrong : ChangeSpec := { name := "fnUnescapeASCIIEncodeRoundTrip", fn := fun _ => fun
  | [d1, d2, d3, d4] => { results := [.lit (.bool false)], args := [d1, d2, d3, d4] }
  | _ => none }
def FnUnescapeASCIIEncodeRoundTripWrongFalsely : Prop := fnUnescapeASCIIEncodeRoundTripRow.holds Trym.pinned (OpenSpec.ofChange fnUnescapeASCIIEncodeRoundTripWrong)

/-- 'zzlaws_mcpserver_b1.FnAsciiTextMatchesMachine': WHATEVER THE INPUT: true; the input reads as it did. -/
def fnAsciiTextMatchesMachineSpec : ChangeSpec := { name := "fnAsciiTextMatchesMachine", fn := fun _ => fun
  | [d1, d2] => { results := [.lit (.bool true)], args := [d1, d2] }
  | _ => none }
def fnAsciiTextMatchesMachineRow : OpenClaim := { program := "qxb6601660amods", sum := "d68617a9fe5986176783de47c1e1df6130b68235497b89d46553b43db110e055", func := "example.com/ariel/ariel/zzlaws_mcpserver_b1.FnAsciiTextMatchesMachine", spec := "fnAsciiTextMatchesMachine", inPlace := ["internal/bytealg.IndexByte", "internal/bytealg.IndexByteString"], make := .lifted ["publicsums"], apart := false }
def FnAsciiTextMatchesMachineSaid : Prop := fnAsciiTextMatchesMachineRow.holds Trym.pinned (OpenSpec.ofChange fnAsciiTextMatchesMachineSpec)

/-- ITS FALSE NEIGHBOUR: 'it returns false'. Refute it at one input. -/
def fnAsciiTextMatchesMachineWrong : ChangeSpec := { name := "fnAsciiTextMatchesMachine", fn := fun _ => fun
  | [d1, d2] => { results := [.lit (.bool false)], args := [d1, d2] }
  | _ => none }
def FnAsciiTextMatchesMachineWrongFalsely : Prop := fnAsciiTextMatchesMachineRow.holds Trym.pinned (OpenSpec.ofChange fnAsciiTextMatchesMachineWrong)

/-- 'zzlaws_mcpserver_b1.FnAsciiTextDecodesEncoding': WHATEVER THE INPUT: true; the input reads as it did. -/
def fnAsciiTextDecodesEncodingSpec : ChangeSpec := { name := "fnAsciiTextDecodesEncoding", fn := fun _ => fun
  | [d1, d2] => { results := [.lit (.bool true)], args := [d1, d2] }
  | _ => none }
def fnAsciiTextDecodesEncodingRow : OpenClaim := { program := "qxb6601660amods", sum := "d68617a9fe5986176783de47c1e1df6130b68235497b89d46553b43db110e055", func := "example.com/ariel/ariel/zzlaws_mcpserver_b1.FnAsciiTextDecodesEncoding", spec := "fnAsciiTextDecodesEncoding", inPlace := ["internal/bytealg.IndexByte", "internal/bytealg.IndexByteString"], make := .lifted ["publicsums"], apart := false }
def FnAsciiTextDecodesEncodingSaid : Prop := fnAsciiTextDecodesEncodingRow.holds Trym.pinned (OpenSpec.ofChange fnAsciiTextDecodesEncodingSpec)

/-- ITS FALSE NEIGHBOUR: 'it returns false'. Refute it at one input. -/
def fnAsciiTextDecodesEncodingWrong : ChangeSpec := { name := "fnAsciiTextDecodesEncoding", fn := fun _ => fun
  | [d1, d2] => { results := [.lit (.bool false)], args := [d1, d2] }
  | _ => none }
def FnAsciiTextDecodesEncodingWrongFalsely : Prop := fnAsciiTextDecodesEncodingRow.holds Trym.pinned (OpenSpec.ofChange fnAsciiTextDecodesEncodingWrong)

/-- 'zzlaws_mcpserver_b1.FnAsciiTextPlainAgrees': WHATEVER THE INPUT: true; the input reads as it did. -/
def fnAsciiTextPlainAgreesSpec : ChangeSpec := { name := "fnAsciiTextPlainAgrees", fn := fun _ => fun
  | [d] => { results := [.lit (.bool true)], args := [d] }
  | _ => none }
def fnAsciiTextPlainAgreesRow : OpenClaim := { program := "qxb6601660amods", sum := "d68617a9fe5986176783de47c1e1df6130b68235497b89d46553b43db110e055", func := "example.com/ariel/ariel/zzlaws_mcpserver_b1.FnAsciiTextPlainAgrees", spec := "fnAsciiTextPlainAgrees", inPlace := ["internal/bytealg.IndexByte", "internal/bytealg.IndexByteString"], make := .lifted ["publicsums"], apart := false }
def FnAsciiTextPlainAgreesSaid : Prop := fnAsciiTextPlainAgreesRow.holds Trym.pinned (OpenSpec.ofChange fnAsciiTextPlainAgreesSpec)

/-- ITS FALSE NEIGHBOUR: 'it returns false'. Refute it at one input. -/
def fnAsciiTextPlainAgreesWrong : ChangeSpec := { name := "fnAsciiTextPlainAgrees", fn := fun _ => fun
  | [d] => { results := [.lit (.bool false)], args := [d] }
  | _ => none }
def FnAsciiTextPlainAgreesWrongFalsely : Prop := fnAsciiTextPlainAgreesRow.holds Trym.pinned (OpenSpec.ofChange fnAsciiTextPlainAgreesWrong)

end Rows
end Go.Proofs.Qxb6601660aMods
