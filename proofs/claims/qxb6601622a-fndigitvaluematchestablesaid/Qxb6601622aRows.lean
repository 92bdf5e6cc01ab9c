/-
  No cell of these rows narrows 'for every input' (looked for: loops, veiled, ifaces, maps, wideKeys, modest, calm, conditions, laid).
  DERIVED. THE GIVEN ROWS OF THIS SEAT. 2 by the template 'for every input the law returns true; each argument reads behind the call as it read before'; 0 by the template 'total and deterministic' (their statements: Qxb6601622aTotals.lean).
  GIVEN WITH THE SEED: the statements are not yours to turn. If you find one false, say at which input.
  Laid BY PROGRAM, IN A SANDBOX (cutbox-rows.mjs): the forced cells as the released guide's own fill.sh prints them over the translation e04cbf162c604b32… (all of the seat's roots in one cut). By AI agents, Wed Nov 11 2026. No macro, syntax, notation, axiom, sorry.
-/
import Derived.Test.Qxb6601622aChecked
import GoSem.Claim
import GoSem.ClaimJoined
import GoSem.ClaimMapViews
import Derived.JoinedTies
import Derived.KernelRfl
namespace Go.Proofs.Qxb6601622a
/- THE CELL 'sum', in the pinned program and in every row, IS THE sha256 OF THE DUMP (.gsa) THAT Qxb6601622aProg.lean LOADS. Nothing in Lean hashes anything: it is a label: what it is worth is what the hold of that sum in a sandbox is worth. -/
noncomputable def Try.pinned : Pinned := { name := "qxb6601622a", sum := "e04cbf162c604b32cdd54a039ef7c130c659dc9d614071d5713c7e50f4da6be1", checked := Try.checked }
namespace Rows
def none {H : Type} : Left H := { results := [], args := [] }

/-- 'zzlaws_root_b1.FnDigitValueMatchesTable': WHATEVER THE INPUT: true; the input reads as it did. -/
def fnDigitValueMatchesTableSpec : ChangeSpec := { name := "fnDigitValueMatchesTable", fn := fun _ => fun
  | [d] => { results := [.lit (.bool true)], args := [d] }
  | _ => none }
def fnDigitValueMatchesTableRow : OpenClaim := { program := "qxb6601622a", sum := "e04cbf162c604b32cdd54a039ef7c130c659dc9d614071d5713c7e50f4da6be1", func := "example.com/caddisfly/caddisfly/zzlaws_root_b1.FnDigitValueMatchesTable", spec := "fnDigitValueMatchesTable", apart := false }
def FnDigitValueMatchesTableSaid : Prop := fnDigitValueMatchesTableRow.holds Try.pinned (OpenSpec.ofChange fnDigitValueMatchesTableSpec)

/-- ITS FALSE NEIGHBOUR: 'it returns false'. Refute it at one input. -/
def fnDigitValueMatchesTableWrong : ChangeSpec := { name := "fnDigitValueMatchesTable", fn := fun _ => fun
  | [d] => { results := [.lit (.bool false)], args := [d] }
  | _ => none }
def FnDigitValueMatchesTableWrongFalsely : Prop := fnDigitValueMatchesTableRow.holds Try.pinned (OpenSpec.ofChange fnDigitValueMatchesTableWrong)

/-- 'zzlaws_root_b1.FnDigitValueIgnoresLetterCase': WHATEVER THE INPUT: true; the input reads as it did. -/
def fnDigitValueIgnoresLetterCaseSpec : ChangeSpec := { name := "fnDigitValueIgnoresLetterCase", fn := fun _ => fun
  | [d] => { results := [.lit (.bool true)], args := [d] }
  | _ => none }
def fnDigitValueIgnoresLetterCaseRow : OpenClaim := { program := "qxb6601622a", sum := "e04cbf162c604b32cdd54a039ef7c130c659dc9d614071d5713c7e50f4da6be1", func := "example.com/caddisfly/caddisfly/zzlaws_root_b1.FnDigitValueIgnoresLetterCase", spec := "fnDigitValueIgnoresLetterCase", apart := false }
def FnDigitValueIgnoresLetterCaseSaid : Prop := fnDigitValueIgnoresLetterCaseRow.holds Try.pinned (OpenSpec.ofChange fnDigitValueIgnoresLetterCaseSpec)

/-- ITS FALSE NEIGHBOUR: 'it returns false'. Refute it at one input. -/
def fnDigitValueIgnoresLetterCaseWrong : ChangeSpec := { name := "fnDigitValueIgnoresLetterCase", fn := fun _ => fun
  | [d] => { results := [.lit (.bool false)], args := [d] }
  | _ => none }
def FnDigitValueIgnoresLetterCaseWrongFalsely : Prop := fnDigitValueIgnoresLetterCaseRow.holds Try.pinned (OpenSpec.ofChange fnDigitValueIgnoresLetterCaseWrong)

end Rows
end Go.Proofs.Qxb6601622a
