/-
  No cell of these rows narrows 'for every input' (looked for: loops, veiled, ifaces, maps, wideKeys, modest, calm, conditions, laid).
  DERIVED. THE GIVEN ROWS OF THIS SEAT. 2 by the template 'for every input the law returns true; each argument reads behind the call as it read before'; 0 by the template 'total and deterministic' (their statements: Qxb6619289aTotals.lean).
  GIVEN WITH THE SEED: the statements are not yours to turn. If you find one false, say at which input.
  Laid BY PROGRAM, IN A SANDBOX (cutbox-rows.mjs): the forced cells as the released guide's own fill.sh prints them over the translation f0f8513fa829235c… (all of the seat's roots in one cut). By AI agents, Wed Nov 11 2026. No macro, syntax, notation, axiom, sorry.
-/
import Derived.Test.Qxb6619289aChecked
import GoSem.Claim
import GoSem.ClaimJoined
import GoSem.ClaimMapViews
import Derived.JoinedTies
import Derived.KernelRfl
namespace Go.Proofs.Qxb6619289a
/- THE CELL 'sum', in the pinned program and in every row, IS THE sha256 OF THE DUMP (.gsa) THAT Qxb6619289aProg.lean LOADS. Nothing in Lean hashes anything: it is a label: what it is worth is what the hold of that sum in a sandbox is worth. -/
noncomputable def Try.pinned : Pinned := { name := "qxb6619289a", sum := "f0f8513fa829235c686c5199dbc160fdd7354127a6bef1a2d5cb47af22477aa7", checked := Try.checked }
namespace Rows
def none {H : Type} : Left H := { results := [], args := [] }

/-- 'zzlaws_internal_journal_b1.FnClosingAgreesOverAppendedTail': WHATEVER THE INPUT: true; the input reads as it did. -/
def fnClosingAgreesOverAppendedTailSpec : ChangeSpec := { name := "fnClosingAgreesOverAppendedTail", fn := fun _ => fun
  | [d1, d2] => { results := [.lit (.bool true)], args := [d1, d2] }
  | _ => none }
def fnClosingAgreesOverAppendedTailRow : OpenClaim := { program := "qxb6619289a", sum := "f0f8513fa829235c686c5199dbc160fdd7354127a6bef1a2d5cb47af22477aa7", func := "example.com/vestledger/vestledger/zzlaws_internal_journal_b1.FnClosingAgreesOverAppendedTail", spec := "fnClosingAgreesOverAppendedTail", apart := false }
def FnClosingAgreesOverAppendedTailSaid : Prop := fnClosingAgreesOverAppendedTailRow.holds Try.pinned (OpenSpec.ofChange fnClosingAgreesOverAppendedTailSpec)

/-- ITS FALSE NEIGHBOUR: 'it returns false'. Refute it at one input. -/
def fnClosingAgreesOverAppendedTailWrong : ChangeSpec := { name := "fnClosingAgreesOverAppendedTail", fn := fun _ => fun
  | [d1, d2] => { results := [.lit (.bool false)], args := [d1, d2] }
  | _ => none }
def FnClosingAgreesOverAppendedTailWrongFalsely : Prop := fnClosingAgreesOverAppendedTailRow.holds Try.pinned (OpenSpec.ofChange fnClosingAgreesOverAppendedTailWrong)

/-- 'zzlaws_internal_journal_b1.FnClosingPeelsEachRepeatedMark': WHATEVER THE INPUT: true; the input reads as it did. -/
def fnClosingPeelsEachRepeatedMarkSpec : ChangeSpec := { name := "fnClosingPeelsEachRepeatedMark", fn := fun _ => fun
  | [d] => { results := [.lit (.bool true)], args := [d] }
  | _ => none }
def fnClosingPeelsEachRepeatedMarkRow : OpenClaim := { program := "qxb6619289a", sum := "f0f8513fa829235c686c5199dbc160fdd7354127a6bef1a2d5cb47af22477aa7", func := "example.com/vestledger/vestledger/zzlaws_internal_journal_b1.FnClosingPeelsEachRepeatedMark", spec := "fnClosingPeelsEachRepeatedMark", apart := false }
def FnClosingPeelsEachRepeatedMarkSaid : Prop := fnClosingPeelsEachRepeatedMarkRow.holds Try.pinned (OpenSpec.ofChange fnClosingPeelsEachRepeatedMarkSpec)

/-- ITS FALSE NEIGHBOUR: 'it returns false'. Refute it at one input. -/
def fnClosingPeelsEachRepeatedMarkWrong : ChangeSpec := { name := "fnClosingPeelsEachRepeatedMark", fn := fun _ => fun
  | [d] => { results := [.lit (.bool false)], args := [d] }
  | _ => none }
def FnClosingPeelsEachRepeatedMarkWrongFalsely : Prop := fnClosingPeelsEachRepeatedMarkRow.holds Try.pinned (OpenSpec.ofChange fnClosingPeelsEachRepeatedMarkWrong)

end Rows
end Go.Proofs.Qxb6619289a
