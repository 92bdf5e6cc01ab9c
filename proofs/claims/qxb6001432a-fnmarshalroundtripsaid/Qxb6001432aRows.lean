/-
  No cell of these rows narrows 'for every input' (looked for: loops, veiled, ifaces, maps, wideKeys, modest, calm, conditions, laid).
  DERIVED. THE GIVEN ROWS OF THIS SEAT. 6 by the template 'for every input the law returns true; each argument reads behind the call as it read before'; 0 by the template 'total and deterministic' (their statements: Qxb6001432aTotals.lean).
  GIVEN WITH THE SEED: the statements are not yours to turn. If you find one false, say at which input.
  Laid BY PROGRAM, IN A SANDBOX (cutbox-rows.mjs): the forced cells as the released guide's own fill.sh prints them over the translation 0976f0fd38bc9c63… (all of the seat's roots in one cut). By AI agents, Wed Nov 11 2026. No macro, syntax, notation, axiom, sorry.
-/
import Derived.Test.Qxb6001432aChecked
import GoSem.Claim
import GoSem.ClaimJoined
import GoSem.ClaimMapViews
import Derived.JoinedTies
import Derived.KernelRfl
namespace Go.Proofs.Qxb6001432a
/- THE CELL 'sum', in the pinned program and in every row, IS THE sha256 OF THE DUMP (.gsa) THAT Qxb6001432aProg.lean LOADS. Nothing in Lean hashes anything: it is a label: what it is worth is what the hold of that sum in a sandbox is worth. -/
noncomputable def Try.pinned : Pinned := { name := "qxb6001432a", sum := "0976f0fd38bc9c6354579e5f77fb558e068110cdacc41058200e78f1096a90d3", checked := Try.checked }
namespace Rows
def none {H : Type} : Left H := { results := [], args := [] }

/-- 'zzlaws_internal_mcs_b1.FnAppendIntegerRoundTrip': WHATEVER THE INPUT: true; the input reads as it did. -/
def fnAppendIntegerRoundTripSpec : ChangeSpec := { name := "fnAppendIntegerRoundTrip", fn := fun _ => fun
  | [d1, d2] => { results := [.lit (.bool true)], args := [d1, d2] }
  | _ => none }
def fnAppendIntegerRoundTripRow : OpenClaim := { program := "qxb6001432a", sum := "0976f0fd38bc9c6354579e5f77fb558e068110cdacc41058200e78f1096a90d3", func := "example.com/inchworm/inchworm/zzlaws_internal_mcs_b1.FnAppendIntegerRoundTrip", spec := "fnAppendIntegerRoundTrip", apart := false }
def FnAppendIntegerRoundTripSaid : Prop := fnAppendIntegerRoundTripRow.holds Try.pinned (OpenSpec.ofChange fnAppendIntegerRoundTripSpec)

/-- ITS FALSE NEIGHBOUR: 'it returns false'. Refute it at one input. -/
def fnAppendIntegerRoundTripWrong : ChangeSpec := { name := "fnAppendIntegerRoundTrip", fn := fun _ => fun
  | [d1, d2] => { results := [.lit (.bool false)], args := [d1, d2] }
  | _ => none }
def FnAppendIntegerRoundTripWrongFalsely : Prop := fnAppendIntegerRoundTripRow.holds Try.pinned (OpenSpec.ofChange fnAppendIntegerRoundTripWrong)

/-- 'zzlaws_internal_mcs_b1.FnAppendIntegerShortest': WHATEVER THE INPUT: true; the input reads as it did. -/
def fnAppendIntegerShortestSpec : ChangeSpec := { name := "fnAppendIntegerShortest", fn := fun _ => fun
  | [d] => { results := [.lit (.bool true)], args := [d] }
  | _ => none }
def fnAppendIntegerShortestRow : OpenClaim := { program := "qxb6001432a", sum := "0976f0fd38bc9c6354579e5f77fb558e068110cdacc41058200e78f1096a90d3", func := "example.com/inchworm/inchworm/zzlaws_internal_mcs_b1.FnAppendIntegerShortest", spec := "fnAppendIntegerShortest", apart := false }
def FnAppendIntegerShortestSaid : Prop := fnAppendIntegerShortestRow.holds Try.pinned (OpenSpec.ofChange fnAppendIntegerShortestSpec)

/-- ITS FALSE NEIGHBOUR: 'it returns false'. Refute it at one input. -/
def fnAppendIntegerShortestWrong : ChangeSpec := { name := "fnAppendIntegerShortest", fn := fun _ => fun
  | [d] => { results := [.lit (.bool false)], args := [d] }
  | _ => none }
def FnAppendIntegerShortestWrongFalsely : Prop := fnAppendIntegerShortestRow.holds Try.pinned (OpenSpec.ofChange fnAppendIntegerShortestWrong)

/-- 'zzlaws_internal_mcs_b1.FnAppendIntegerLengthMonotone': WHATEVER THE INPUT: true; the input reads as it did. -/
def fnAppendIntegerLengthMonotoneSpec : ChangeSpec := { name := "fnAppendIntegerLengthMonotone", fn := fun _ => fun
  | [d] => { results := [.lit (.bool true)], args := [d] }
  | _ => none }
def fnAppendIntegerLengthMonotoneRow : OpenClaim := { program := "qxb6001432a", sum := "0976f0fd38bc9c6354579e5f77fb558e068110cdacc41058200e78f1096a90d3", func := "example.com/inchworm/inchworm/zzlaws_internal_mcs_b1.FnAppendIntegerLengthMonotone", spec := "fnAppendIntegerLengthMonotone", apart := false }
def FnAppendIntegerLengthMonotoneSaid : Prop := fnAppendIntegerLengthMonotoneRow.holds Try.pinned (OpenSpec.ofChange fnAppendIntegerLengthMonotoneSpec)

/-- ITS FALSE NEIGHBOUR: 'it returns false'. Refute it at one input. -/
def fnAppendIntegerLengthMonotoneWrong : ChangeSpec := { name := "fnAppendIntegerLengthMonotone", fn := fun _ => fun
  | [d] => { results := [.lit (.bool false)], args := [d] }
  | _ => none }
def FnAppendIntegerLengthMonotoneWrongFalsely : Prop := fnAppendIntegerLengthMonotoneRow.holds Try.pinned (OpenSpec.ofChange fnAppendIntegerLengthMonotoneWrong)

/-- 'zzlaws_internal_mcs_b1.FnAppendElementRoundTrip': WHATEVER THE INPUT: true; the input reads as it did. -/
def fnAppendElementRoundTripSpec : ChangeSpec := { name := "fnAppendElementRoundTrip", fn := fun _ => fun
  | [d1, d2, d3] => { results := [.lit (.bool true)], args := [d1, d2, d3] }
  | _ => none }
def fnAppendElementRoundTripRow : OpenClaim := { program := "qxb6001432a", sum := "0976f0fd38bc9c6354579e5f77fb558e068110cdacc41058200e78f1096a90d3", func := "example.com/inchworm/inchworm/zzlaws_internal_mcs_b1.FnAppendElementRoundTrip", spec := "fnAppendElementRoundTrip", apart := false }
def FnAppendElementRoundTripSaid : Prop := fnAppendElementRoundTripRow.holds Try.pinned (OpenSpec.ofChange fnAppendElementRoundTripSpec)

/-- ITS FALSE NEIGHBOUR: 'it returns false'. Refute it at one input. -/
def fnAppendElementRoundTripWrong : ChangeSpec := { name := "fnAppendElementRoundTrip", fn := fun _ => fun
  | [d1, d2, d3] => { results := [.lit (.bool false)], args := [d1, d2, d3] }
  | _ => none }
def FnAppendElementRoundTripWrongFalsely : Prop := fnAppendElementRoundTripRow.holds Try.pinned (OpenSpec.ofChange fnAppendElementRoundTripWrong)

/-- 'zzlaws_internal_mcs_b1.FnAppendElementKeepsPrefix': WHATEVER THE INPUT: true; the input reads as it did. -/
def fnAppendElementKeepsPrefixSpec : ChangeSpec := { name := "fnAppendElementKeepsPrefix", fn := fun _ => fun
  | [d1, d2, d3] => { results := [.lit (.bool true)], args := [d1, d2, d3] }
  | _ => none }
def fnAppendElementKeepsPrefixRow : OpenClaim := { program := "qxb6001432a", sum := "0976f0fd38bc9c6354579e5f77fb558e068110cdacc41058200e78f1096a90d3", func := "example.com/inchworm/inchworm/zzlaws_internal_mcs_b1.FnAppendElementKeepsPrefix", spec := "fnAppendElementKeepsPrefix", apart := false }
def FnAppendElementKeepsPrefixSaid : Prop := fnAppendElementKeepsPrefixRow.holds Try.pinned (OpenSpec.ofChange fnAppendElementKeepsPrefixSpec)

/-- ITS FALSE NEIGHBOUR: 'it returns false'. Refute it at one input. -/
def fnAppendElementKeepsPrefixWrong : ChangeSpec := { name := "fnAppendElementKeepsPrefix", fn := fun _ => fun
  | [d1, d2, d3] => { results := [.lit (.bool false)], args := [d1, d2, d3] }
  | _ => none }
def FnAppendElementKeepsPrefixWrongFalsely : Prop := fnAppendElementKeepsPrefixRow.holds Try.pinned (OpenSpec.ofChange fnAppendElementKeepsPrefixWrong)

/-- 'zzlaws_internal_mcs_b1.FnMarshalRoundTrip': WHATEVER THE INPUT: true; the input reads as it did. -/
def fnMarshalRoundTripSpec : ChangeSpec := { name := "fnMarshalRoundTrip", fn := fun _ => fun
  | [d1, d2, d3, d4, d5, d6, d7] => { results := [.lit (.bool true)], args := [d1, d2, d3, d4, d5, d6, d7] }
  | _ => none }
def fnMarshalRoundTripRow : OpenClaim := { program := "qxb6001432a", sum := "0976f0fd38bc9c6354579e5f77fb558e068110cdacc41058200e78f1096a90d3", func := "example.com/inchworm/inchworm/zzlaws_internal_mcs_b1.FnMarshalRoundTrip", spec := "fnMarshalRoundTrip", apart := false }
def FnMarshalRoundTripSaid : Prop := fnMarshalRoundTripRow.holds Try.pinned (OpenSpec.ofChange fnMarshalRoundTripSpec)

/-- ITS FALSE NEIGHBOUR: 'it returns false'. Refute it at one input. -/
def fnMarshalRoundTripWrong : ChangeSpec := { name := "fnMarshalRoundTrip", fn := fun _ => fun
  | [d1, d2, d3, d4, d5, d6, d7] => { results := [.lit (.bool false)], args := [d1, d2, d3, d4, d5, d6, d7] }
  | _ => none }
def FnMarshalRoundTripWrongFalsely : Prop := fnMarshalRoundTripRow.holds Try.pinned (OpenSpec.ofChange fnMarshalRoundTripWrong)

end Rows
end Go.Proofs.Qxb6001432a
