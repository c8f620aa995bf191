/-
  No cell of these rows narrows 'for every input' (looked for: loops, veiled, ifaces, maps, wideKeys, modest, calm, conditions, laid).
  DERIVED. THE GIVEN ROWS OF THIS SEAT. 4 by the template 'for every input the law returns true; each argument reads behind the call as it read before'; 0 by the template 'total and deterministic' (their statements: Qxb6621632aTotals.lean).
  GIVEN WITH THE SEED: the statements are not yours to turn. If you find one false, say at which input.
  Laid BY PROGRAM, IN A SANDBOX (cutbox-rows.mjs): the forced cells as the released guide's own fill.sh prints them over the translation 18c12b2a285e7afa… (all of the seat's roots in one cut). By AI agents, Wed Nov 11 2026. No macro, syntax, notation, axiom, sorry.
-/
import Derived.Test.Qxb6621632aChecked
import GoSem.Claim
import GoSem.ClaimJoined
import GoSem.ClaimMapViews
import Derived.JoinedTies
import Derived.KernelRfl
namespace Go.Proofs.Qxb6621632a
/- THE CELL 'sum', in the pinned program and in every row, IS THE sha256 OF THE DUMP (.gsa) THAT Qxb6621632aProg.lean LOADS. Nothing in Lean hashes anything: it is a label: what it is worth is what the hold of that sum in a sandbox is worth. -/
noncomputable def Try.pinned : Pinned := { name := "qxb6621632a", sum := "18c12b2a285e7afa613672b1f330d5107ea8200693102ce6f435dd40315bc511", checked := Try.checked }
namespace Rows
def none {H : Type} : Left H := { results := [], args := [] }

/-- 'zzlaws_report_b1.FnExitOfSummarizedVerdicts': WHATEVER THE INPUT: true; the input reads as it did. -/
def fnExitOfSummarizedVerdictsSpec : ChangeSpec := { name := "fnExitOfSummarizedVerdicts", fn := fun _ => fun
  | [d1, d2] => { results := [.lit (.bool true)], args := [d1, d2] }
  | _ => none }
def fnExitOfSummarizedVerdictsRow : OpenClaim := { program := "qxb6621632a", sum := "18c12b2a285e7afa613672b1f330d5107ea8200693102ce6f435dd40315bc511", func := "example.com/zoneglass/zoneglass/zzlaws_report_b1.FnExitOfSummarizedVerdicts", spec := "fnExitOfSummarizedVerdicts", apart := false }
def FnExitOfSummarizedVerdictsSaid : Prop := fnExitOfSummarizedVerdictsRow.holds Try.pinned (OpenSpec.ofChange fnExitOfSummarizedVerdictsSpec)

/-- ITS FALSE NEIGHBOUR: 'it returns false'. Refute it at one input. -/
def fnExitOfSummarizedVerdictsWrong : ChangeSpec := { name := "fnExitOfSummarizedVerdicts", fn := fun _ => fun
  | [d1, d2] => { results := [.lit (.bool false)], args := [d1, d2] }
  | _ => none }
def FnExitOfSummarizedVerdictsWrongFalsely : Prop := fnExitOfSummarizedVerdictsRow.holds Try.pinned (OpenSpec.ofChange fnExitOfSummarizedVerdictsWrong)

/-- 'zzlaws_report_b1.FnUnitIsLargestExactUnit': WHATEVER THE INPUT: true; the input reads as it did. -/
def fnUnitIsLargestExactUnitSpec : ChangeSpec := { name := "fnUnitIsLargestExactUnit", fn := fun _ => fun
  | [d] => { results := [.lit (.bool true)], args := [d] }
  | _ => none }
def fnUnitIsLargestExactUnitRow : OpenClaim := { program := "qxb6621632a", sum := "18c12b2a285e7afa613672b1f330d5107ea8200693102ce6f435dd40315bc511", func := "example.com/zoneglass/zoneglass/zzlaws_report_b1.FnUnitIsLargestExactUnit", spec := "fnUnitIsLargestExactUnit", apart := false }
def FnUnitIsLargestExactUnitSaid : Prop := fnUnitIsLargestExactUnitRow.holds Try.pinned (OpenSpec.ofChange fnUnitIsLargestExactUnitSpec)

/-- ITS FALSE NEIGHBOUR: 'it returns false'. Refute it at one input. -/
def fnUnitIsLargestExactUnitWrong : ChangeSpec := { name := "fnUnitIsLargestExactUnit", fn := fun _ => fun
  | [d] => { results := [.lit (.bool false)], args := [d] }
  | _ => none }
def FnUnitIsLargestExactUnitWrongFalsely : Prop := fnUnitIsLargestExactUnitRow.holds Try.pinned (OpenSpec.ofChange fnUnitIsLargestExactUnitWrong)

/-- 'zzlaws_report_b1.FnSummarizeSplitsAtAnyCut': WHATEVER THE INPUT: true; the input reads as it did. -/
def fnSummarizeSplitsAtAnyCutSpec : ChangeSpec := { name := "fnSummarizeSplitsAtAnyCut", fn := fun _ => fun
  | [d1, d2] => { results := [.lit (.bool true)], args := [d1, d2] }
  | _ => none }
def fnSummarizeSplitsAtAnyCutRow : OpenClaim := { program := "qxb6621632a", sum := "18c12b2a285e7afa613672b1f330d5107ea8200693102ce6f435dd40315bc511", func := "example.com/zoneglass/zoneglass/zzlaws_report_b1.FnSummarizeSplitsAtAnyCut", spec := "fnSummarizeSplitsAtAnyCut", apart := false }
def FnSummarizeSplitsAtAnyCutSaid : Prop := fnSummarizeSplitsAtAnyCutRow.holds Try.pinned (OpenSpec.ofChange fnSummarizeSplitsAtAnyCutSpec)

/-- ITS FALSE NEIGHBOUR: 'it returns false'. Refute it at one input. -/
def fnSummarizeSplitsAtAnyCutWrong : ChangeSpec := { name := "fnSummarizeSplitsAtAnyCut", fn := fun _ => fun
  | [d1, d2] => { results := [.lit (.bool false)], args := [d1, d2] }
  | _ => none }
def FnSummarizeSplitsAtAnyCutWrongFalsely : Prop := fnSummarizeSplitsAtAnyCutRow.holds Try.pinned (OpenSpec.ofChange fnSummarizeSplitsAtAnyCutWrong)

/-- 'zzlaws_report_b1.FnSummarizeOneMoreVerdictCountsOnce': WHATEVER THE INPUT: true; the input reads as it did. -/
def fnSummarizeOneMoreVerdictCountsOnceSpec : ChangeSpec := { name := "fnSummarizeOneMoreVerdictCountsOnce", fn := fun _ => fun
  | [d1, d2, d3] => { results := [.lit (.bool true)], args := [d1, d2, d3] }
  | _ => none }
def fnSummarizeOneMoreVerdictCountsOnceRow : OpenClaim := { program := "qxb6621632a", sum := "18c12b2a285e7afa613672b1f330d5107ea8200693102ce6f435dd40315bc511", func := "example.com/zoneglass/zoneglass/zzlaws_report_b1.FnSummarizeOneMoreVerdictCountsOnce", spec := "fnSummarizeOneMoreVerdictCountsOnce", apart := false }
def FnSummarizeOneMoreVerdictCountsOnceSaid : Prop := fnSummarizeOneMoreVerdictCountsOnceRow.holds Try.pinned (OpenSpec.ofChange fnSummarizeOneMoreVerdictCountsOnceSpec)

/-- ITS FALSE NEIGHBOUR: 'it returns false'. Refute it at one input. -/
def fnSummarizeOneMoreVerdictCountsOnceWrong : ChangeSpec := { name := "fnSummarizeOneMoreVerdictCountsOnce", fn := fun _ => fun
  | [d1, d2, d3] => { results := [.lit (.bool false)], args := [d1, d2, d3] }
  | _ => none }
def FnSummarizeOneMoreVerdictCountsOnceWrongFalsely : Prop := fnSummarizeOneMoreVerdictCountsOnceRow.holds Try.pinned (OpenSpec.ofChange fnSummarizeOneMoreVerdictCountsOnceWrong)

end Rows
end Go.Proofs.Qxb6621632a
