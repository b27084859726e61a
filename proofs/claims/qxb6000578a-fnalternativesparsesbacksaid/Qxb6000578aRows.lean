/-
  No cell of these rows narrows 'for every input' (looked for: loops, veiled, ifaces, maps, wideKeys, modest, calm, conditions, laid).
  DERIVED. THE GIVEN ROWS OF THIS SEAT. 7 by the template 'for every input the law returns true; each argument reads behind the call as it read before'; 0 by the template 'total and deterministic' (their statements: Qxb6000578aTotals.lean).
  GIVEN WITH THE SEED: the statements are not yours to turn. If you find one false, say at which input.
  Laid BY PROGRAM, IN A SANDBOX (cutbox-rows.mjs): the forced cells as the released guide's own fill.sh prints them over the translation a2b1d7648c81e302… (all of the seat's roots in one cut). By AI agents, Wed Nov 11 2026. No macro, syntax, notation, axiom, sorry.
-/
import Derived.Test.Qxb6000578aChecked
import GoSem.Claim
import GoSem.ClaimJoined
import GoSem.ClaimMapViews
import Derived.JoinedTies
import Derived.KernelRfl
namespace Go.Proofs.Qxb6000578a
/- THE CELL 'sum', in the pinned program and in every row, IS THE sha256 OF THE DUMP (.gsa) THAT Qxb6000578aProg.lean LOADS. Nothing in Lean hashes anything: it is a label: what it is worth is what the hold of that sum in a sandbox is worth. -/
noncomputable def Try.pinned : Pinned := { name := "qxb6000578a", sum := "a2b1d7648c81e302823f2438cf8588499ed5a85d84537e019f2bf4eb2bfba8d8", checked := Try.checked }
namespace Rows
def none {H : Type} : Left H := { results := [], args := [] }

/-- 'zzlaws_pkg_plan_b1.FnLineEndsMatchesBreakModel': WHATEVER THE INPUT: true; the input reads as it did. -/
def fnLineEndsMatchesBreakModelSpec : ChangeSpec := { name := "fnLineEndsMatchesBreakModel", fn := fun _ => fun
  | [d] => { results := [.lit (.bool true)], args := [d] }
  | _ => none }
def fnLineEndsMatchesBreakModelRow : OpenClaim := { program := "qxb6000578a", sum := "a2b1d7648c81e302823f2438cf8588499ed5a85d84537e019f2bf4eb2bfba8d8", func := "example.com/vestledger/vestledger/zzlaws_pkg_plan_b1.FnLineEndsMatchesBreakModel", spec := "fnLineEndsMatchesBreakModel", apart := false }
def FnLineEndsMatchesBreakModelSaid : Prop := fnLineEndsMatchesBreakModelRow.holds Try.pinned (OpenSpec.ofChange fnLineEndsMatchesBreakModelSpec)

/-- ITS FALSE NEIGHBOUR: 'it returns false'. Refute it at one input. -/
def fnLineEndsMatchesBreakModelWrong : ChangeSpec := { name := "fnLineEndsMatchesBreakModel", fn := fun _ => fun
  | [d] => { results := [.lit (.bool false)], args := [d] }
  | _ => none }
def FnLineEndsMatchesBreakModelWrongFalsely : Prop := fnLineEndsMatchesBreakModelRow.holds Try.pinned (OpenSpec.ofChange fnLineEndsMatchesBreakModelWrong)

/-- 'zzlaws_pkg_plan_b1.FnLineEndsCutWellFormedLines': WHATEVER THE INPUT: true; the input reads as it did. -/
def fnLineEndsCutWellFormedLinesSpec : ChangeSpec := { name := "fnLineEndsCutWellFormedLines", fn := fun _ => fun
  | [d] => { results := [.lit (.bool true)], args := [d] }
  | _ => none }
def fnLineEndsCutWellFormedLinesRow : OpenClaim := { program := "qxb6000578a", sum := "a2b1d7648c81e302823f2438cf8588499ed5a85d84537e019f2bf4eb2bfba8d8", func := "example.com/vestledger/vestledger/zzlaws_pkg_plan_b1.FnLineEndsCutWellFormedLines", spec := "fnLineEndsCutWellFormedLines", apart := false }
def FnLineEndsCutWellFormedLinesSaid : Prop := fnLineEndsCutWellFormedLinesRow.holds Try.pinned (OpenSpec.ofChange fnLineEndsCutWellFormedLinesSpec)

/-- ITS FALSE NEIGHBOUR: 'it returns false'. Refute it at one input. -/
def fnLineEndsCutWellFormedLinesWrong : ChangeSpec := { name := "fnLineEndsCutWellFormedLines", fn := fun _ => fun
  | [d] => { results := [.lit (.bool false)], args := [d] }
  | _ => none }
def FnLineEndsCutWellFormedLinesWrongFalsely : Prop := fnLineEndsCutWellFormedLinesRow.holds Try.pinned (OpenSpec.ofChange fnLineEndsCutWellFormedLinesWrong)

/-- 'zzlaws_pkg_plan_b1.FnLineEndsSplitAfterLineFeed': WHATEVER THE INPUT: true; the input reads as it did. -/
def fnLineEndsSplitAfterLineFeedSpec : ChangeSpec := { name := "fnLineEndsSplitAfterLineFeed", fn := fun _ => fun
  | [d1, d2] => { results := [.lit (.bool true)], args := [d1, d2] }
  | _ => none }
def fnLineEndsSplitAfterLineFeedRow : OpenClaim := { program := "qxb6000578a", sum := "a2b1d7648c81e302823f2438cf8588499ed5a85d84537e019f2bf4eb2bfba8d8", func := "example.com/vestledger/vestledger/zzlaws_pkg_plan_b1.FnLineEndsSplitAfterLineFeed", spec := "fnLineEndsSplitAfterLineFeed", apart := false }
def FnLineEndsSplitAfterLineFeedSaid : Prop := fnLineEndsSplitAfterLineFeedRow.holds Try.pinned (OpenSpec.ofChange fnLineEndsSplitAfterLineFeedSpec)

/-- ITS FALSE NEIGHBOUR: 'it returns false'. Refute it at one input. -/
def fnLineEndsSplitAfterLineFeedWrong : ChangeSpec := { name := "fnLineEndsSplitAfterLineFeed", fn := fun _ => fun
  | [d1, d2] => { results := [.lit (.bool false)], args := [d1, d2] }
  | _ => none }
def FnLineEndsSplitAfterLineFeedWrongFalsely : Prop := fnLineEndsSplitAfterLineFeedRow.holds Try.pinned (OpenSpec.ofChange fnLineEndsSplitAfterLineFeedWrong)

/-- 'zzlaws_pkg_plan_b1.FnIsOneOfSplitsOverConcatenation': WHATEVER THE INPUT: true; the input reads as it did. -/
def fnIsOneOfSplitsOverConcatenationSpec : ChangeSpec := { name := "fnIsOneOfSplitsOverConcatenation", fn := fun _ => fun
  | [d1, d2, d3] => { results := [.lit (.bool true)], args := [d1, d2, d3] }
  | _ => none }
def fnIsOneOfSplitsOverConcatenationRow : OpenClaim := { program := "qxb6000578a", sum := "a2b1d7648c81e302823f2438cf8588499ed5a85d84537e019f2bf4eb2bfba8d8", func := "example.com/vestledger/vestledger/zzlaws_pkg_plan_b1.FnIsOneOfSplitsOverConcatenation", spec := "fnIsOneOfSplitsOverConcatenation", apart := false }
def FnIsOneOfSplitsOverConcatenationSaid : Prop := fnIsOneOfSplitsOverConcatenationRow.holds Try.pinned (OpenSpec.ofChange fnIsOneOfSplitsOverConcatenationSpec)

/-- ITS FALSE NEIGHBOUR: 'it returns false'. Refute it at one input. -/
def fnIsOneOfSplitsOverConcatenationWrong : ChangeSpec := { name := "fnIsOneOfSplitsOverConcatenation", fn := fun _ => fun
  | [d1, d2, d3] => { results := [.lit (.bool false)], args := [d1, d2, d3] }
  | _ => none }
def FnIsOneOfSplitsOverConcatenationWrongFalsely : Prop := fnIsOneOfSplitsOverConcatenationRow.holds Try.pinned (OpenSpec.ofChange fnIsOneOfSplitsOverConcatenationWrong)

/-- 'zzlaws_pkg_plan_b1.FnIsOneOfIgnoresOrder': WHATEVER THE INPUT: true; the input reads as it did. -/
def fnIsOneOfIgnoresOrderSpec : ChangeSpec := { name := "fnIsOneOfIgnoresOrder", fn := fun _ => fun
  | [d1, d2] => { results := [.lit (.bool true)], args := [d1, d2] }
  | _ => none }
def fnIsOneOfIgnoresOrderRow : OpenClaim := { program := "qxb6000578a", sum := "a2b1d7648c81e302823f2438cf8588499ed5a85d84537e019f2bf4eb2bfba8d8", func := "example.com/vestledger/vestledger/zzlaws_pkg_plan_b1.FnIsOneOfIgnoresOrder", spec := "fnIsOneOfIgnoresOrder", apart := false }
def FnIsOneOfIgnoresOrderSaid : Prop := fnIsOneOfIgnoresOrderRow.holds Try.pinned (OpenSpec.ofChange fnIsOneOfIgnoresOrderSpec)

/-- ITS FALSE NEIGHBOUR: 'it returns false'. Refute it at one input. -/
def fnIsOneOfIgnoresOrderWrong : ChangeSpec := { name := "fnIsOneOfIgnoresOrder", fn := fun _ => fun
  | [d1, d2] => { results := [.lit (.bool false)], args := [d1, d2] }
  | _ => none }
def FnIsOneOfIgnoresOrderWrongFalsely : Prop := fnIsOneOfIgnoresOrderRow.holds Try.pinned (OpenSpec.ofChange fnIsOneOfIgnoresOrderWrong)

/-- 'zzlaws_pkg_plan_b1.FnAlternativesLength': WHATEVER THE INPUT: true; the input reads as it did. -/
def fnAlternativesLengthSpec : ChangeSpec := { name := "fnAlternativesLength", fn := fun _ => fun
  | [d] => { results := [.lit (.bool true)], args := [d] }
  | _ => none }
def fnAlternativesLengthRow : OpenClaim := { program := "qxb6000578a", sum := "a2b1d7648c81e302823f2438cf8588499ed5a85d84537e019f2bf4eb2bfba8d8", func := "example.com/vestledger/vestledger/zzlaws_pkg_plan_b1.FnAlternativesLength", spec := "fnAlternativesLength", apart := false }
def FnAlternativesLengthSaid : Prop := fnAlternativesLengthRow.holds Try.pinned (OpenSpec.ofChange fnAlternativesLengthSpec)

/-- ITS FALSE NEIGHBOUR: 'it returns false'. Refute it at one input. -/
def fnAlternativesLengthWrong : ChangeSpec := { name := "fnAlternativesLength", fn := fun _ => fun
  | [d] => { results := [.lit (.bool false)], args := [d] }
  | _ => none }
def FnAlternativesLengthWrongFalsely : Prop := fnAlternativesLengthRow.holds Try.pinned (OpenSpec.ofChange fnAlternativesLengthWrong)

/-- 'zzlaws_pkg_plan_b1.FnAlternativesParsesBack': WHATEVER THE INPUT: true; the input reads as it did. -/
def fnAlternativesParsesBackSpec : ChangeSpec := { name := "fnAlternativesParsesBack", fn := fun _ => fun
  | [d] => { results := [.lit (.bool true)], args := [d] }
  | _ => none }
def fnAlternativesParsesBackRow : OpenClaim := { program := "qxb6000578a", sum := "a2b1d7648c81e302823f2438cf8588499ed5a85d84537e019f2bf4eb2bfba8d8", func := "example.com/vestledger/vestledger/zzlaws_pkg_plan_b1.FnAlternativesParsesBack", spec := "fnAlternativesParsesBack", apart := false }
def FnAlternativesParsesBackSaid : Prop := fnAlternativesParsesBackRow.holds Try.pinned (OpenSpec.ofChange fnAlternativesParsesBackSpec)

/-- ITS FALSE NEIGHBOUR: 'it returns false'. Refute it at one input. -/
def fnAlternativesParsesBackWrong : ChangeSpec := { name := "fnAlternativesParsesBack", fn := fun _ => fun
  | [d] => { results := [.lit (.bool false)], args := [d] }
  | _ => none }
def FnAlternativesParsesBackWrongFalsely : Prop := fnAlternativesParsesBackRow.holds Try.pinned (OpenSpec.ofChange fnAlternativesParsesBackWrong)

end Rows
end Go.Proofs.Qxb6000578a
