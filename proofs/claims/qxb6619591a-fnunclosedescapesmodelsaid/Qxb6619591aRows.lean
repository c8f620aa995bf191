/-
  No cell of these rows narrows 'for every input' (looked for: loops, veiled, ifaces, maps, wideKeys, modest, calm, conditions, laid).
  DERIVED. THE GIVEN ROWS OF THIS SEAT. 4 by the template 'for every input the law returns true; each argument reads behind the call as it read before'; 0 by the template 'total and deterministic' (their statements: Qxb6619591aTotals.lean).
  GIVEN WITH THE SEED: the statements are not yours to turn. If you find one false, say at which input.
  Laid BY PROGRAM, IN A SANDBOX (cutbox-rows.mjs): the forced cells as the released guide's own fill.sh prints them over the translation 145fda9659eff2f4… (all of the seat's roots in one cut). By AI agents, Wed Nov 11 2026. No macro, syntax, notation, axiom, sorry.
-/
import Derived.Test.Qxb6619591aChecked
import GoSem.Claim
import GoSem.ClaimJoined
import GoSem.ClaimMapViews
import Derived.JoinedTies
import Derived.KernelRfl
namespace Go.Proofs.Qxb6619591a
/- THE CELL 'sum', in the pinned program and in every row, IS THE sha256 OF THE DUMP (.gsa) THAT Qxb6619591aProg.lean LOADS. Nothing in Lean hashes anything: it is a label: what it is worth is what the hold of that sum in a sandbox is worth. -/
noncomputable def Try.pinned : Pinned := { name := "qxb6619591a", sum := "145fda9659eff2f4af0503204aba7e0adaec155bd0de55e1aaa996a508a660dc", checked := Try.checked }
namespace Rows
def none {H : Type} : Left H := { results := [], args := [] }

/-- 'zzlaws_root_b1.FnUnclosedEscapesModel': WHATEVER THE INPUT: true; the input reads as it did. -/
def fnUnclosedEscapesModelSpec : ChangeSpec := { name := "fnUnclosedEscapesModel", fn := fun _ => fun
  | [d1, d2, d3] => { results := [.lit (.bool true)], args := [d1, d2, d3] }
  | _ => none }
def fnUnclosedEscapesModelRow : OpenClaim := { program := "qxb6619591a", sum := "145fda9659eff2f4af0503204aba7e0adaec155bd0de55e1aaa996a508a660dc", func := "example.com/libvar/libvar/zzlaws_root_b1.FnUnclosedEscapesModel", spec := "fnUnclosedEscapesModel", apart := false }
def FnUnclosedEscapesModelSaid : Prop := fnUnclosedEscapesModelRow.holds Try.pinned (OpenSpec.ofChange fnUnclosedEscapesModelSpec)

/-- ITS FALSE NEIGHBOUR: 'it returns false'. Refute it at one input. -/
def fnUnclosedEscapesModelWrong : ChangeSpec := { name := "fnUnclosedEscapesModel", fn := fun _ => fun
  | [d1, d2, d3] => { results := [.lit (.bool false)], args := [d1, d2, d3] }
  | _ => none }
def FnUnclosedEscapesModelWrongFalsely : Prop := fnUnclosedEscapesModelRow.holds Try.pinned (OpenSpec.ofChange fnUnclosedEscapesModelWrong)

/-- 'zzlaws_root_b1.FnUnclosedEscapesShiftAndOpen': WHATEVER THE INPUT: true; the input reads as it did. -/
def fnUnclosedEscapesShiftAndOpenSpec : ChangeSpec := { name := "fnUnclosedEscapesShiftAndOpen", fn := fun _ => fun
  | [d1, d2, d3] => { results := [.lit (.bool true)], args := [d1, d2, d3] }
  | _ => none }
def fnUnclosedEscapesShiftAndOpenRow : OpenClaim := { program := "qxb6619591a", sum := "145fda9659eff2f4af0503204aba7e0adaec155bd0de55e1aaa996a508a660dc", func := "example.com/libvar/libvar/zzlaws_root_b1.FnUnclosedEscapesShiftAndOpen", spec := "fnUnclosedEscapesShiftAndOpen", apart := false }
def FnUnclosedEscapesShiftAndOpenSaid : Prop := fnUnclosedEscapesShiftAndOpenRow.holds Try.pinned (OpenSpec.ofChange fnUnclosedEscapesShiftAndOpenSpec)

/-- ITS FALSE NEIGHBOUR: 'it returns false'. Refute it at one input. -/
def fnUnclosedEscapesShiftAndOpenWrong : ChangeSpec := { name := "fnUnclosedEscapesShiftAndOpen", fn := fun _ => fun
  | [d1, d2, d3] => { results := [.lit (.bool false)], args := [d1, d2, d3] }
  | _ => none }
def FnUnclosedEscapesShiftAndOpenWrongFalsely : Prop := fnUnclosedEscapesShiftAndOpenRow.holds Try.pinned (OpenSpec.ofChange fnUnclosedEscapesShiftAndOpenWrong)

/-- 'zzlaws_root_b1.FnAppendPointerTokenDecodes': WHATEVER THE INPUT: true; the input reads as it did. -/
def fnAppendPointerTokenDecodesSpec : ChangeSpec := { name := "fnAppendPointerTokenDecodes", fn := fun _ => fun
  | [d1, d2] => { results := [.lit (.bool true)], args := [d1, d2] }
  | _ => none }
def fnAppendPointerTokenDecodesRow : OpenClaim := { program := "qxb6619591a", sum := "145fda9659eff2f4af0503204aba7e0adaec155bd0de55e1aaa996a508a660dc", func := "example.com/libvar/libvar/zzlaws_root_b1.FnAppendPointerTokenDecodes", spec := "fnAppendPointerTokenDecodes", apart := false }
def FnAppendPointerTokenDecodesSaid : Prop := fnAppendPointerTokenDecodesRow.holds Try.pinned (OpenSpec.ofChange fnAppendPointerTokenDecodesSpec)

/-- ITS FALSE NEIGHBOUR: 'it returns false'. Refute it at one input. -/
def fnAppendPointerTokenDecodesWrong : ChangeSpec := { name := "fnAppendPointerTokenDecodes", fn := fun _ => fun
  | [d1, d2] => { results := [.lit (.bool false)], args := [d1, d2] }
  | _ => none }
def FnAppendPointerTokenDecodesWrongFalsely : Prop := fnAppendPointerTokenDecodesRow.holds Try.pinned (OpenSpec.ofChange fnAppendPointerTokenDecodesWrong)

/-- 'zzlaws_root_b1.FnAppendPointerTokenConcat': WHATEVER THE INPUT: true; the input reads as it did. -/
def fnAppendPointerTokenConcatSpec : ChangeSpec := { name := "fnAppendPointerTokenConcat", fn := fun _ => fun
  | [d1, d2, d3] => { results := [.lit (.bool true)], args := [d1, d2, d3] }
  | _ => none }
def fnAppendPointerTokenConcatRow : OpenClaim := { program := "qxb6619591a", sum := "145fda9659eff2f4af0503204aba7e0adaec155bd0de55e1aaa996a508a660dc", func := "example.com/libvar/libvar/zzlaws_root_b1.FnAppendPointerTokenConcat", spec := "fnAppendPointerTokenConcat", apart := false }
def FnAppendPointerTokenConcatSaid : Prop := fnAppendPointerTokenConcatRow.holds Try.pinned (OpenSpec.ofChange fnAppendPointerTokenConcatSpec)

/-- ITS FALSE NEIGHBOUR: 'it returns false'. Refute it at one input. -/
def fnAppendPointerTokenConcatWrong : ChangeSpec := { name := "fnAppendPointerTokenConcat", fn := fun _ => fun
  | [d1, d2, d3] => { results := [.lit (.bool false)], args := [d1, d2, d3] }
  | _ => none }
def FnAppendPointerTokenConcatWrongFalsely : Prop := fnAppendPointerTokenConcatRow.holds Try.pinned (OpenSpec.ofChange fnAppendPointerTokenConcatWrong)

end Rows
end Go.Proofs.Qxb6619591a
