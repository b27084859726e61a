/-
  No cell of these rows narrows 'for every input' (looked for: loops, veiled, ifaces, maps, wideKeys, modest, calm, conditions, laid).
  DERIVED. THE GIVEN ROWS OF THIS SEAT. 5 by the template 'for every input the law returns true; each argument reads behind the call as it read before'; 0 by the template 'total and deterministic' (their statements: Qxb6000387aTotals.lean).
  GIVEN WITH THE SEED: the statements are not yours to turn. If you find one false, say at which input.
  Laid BY PROGRAM, IN A SANDBOX (cutbox-rows.mjs): the forced cells as the released guide's own fill.sh prints them over the translation f31d1e74af973da0… (all of the seat's roots in one cut). By AI agents, Wed Nov 11 2026. No macro, syntax, notation, axiom, sorry.
-/
import Derived.Test.Qxb6000387aChecked
import GoSem.Claim
import GoSem.ClaimJoined
import GoSem.ClaimMapViews
import Derived.JoinedTies
import Derived.KernelRfl
namespace Go.Proofs.Qxb6000387a
/- THE CELL 'sum', in the pinned program and in every row, IS THE sha256 OF THE DUMP (.gsa) THAT Qxb6000387aProg.lean LOADS. Nothing in Lean hashes anything: it is a label: what it is worth is what the hold of that sum in a sandbox is worth. -/
noncomputable def Try.pinned : Pinned := { name := "qxb6000387a", sum := "f31d1e74af973da068792b8fe130dfb33b1bbd50f83dae56da74361d63811461", checked := Try.checked }
namespace Rows
def none {H : Type} : Left H := { results := [], args := [] }

/-- 'zzlaws_internal_cachegen_b1.FnLuhnCompletesValidUnique': WHATEVER THE INPUT: true; the input reads as it did. -/
def fnLuhnCompletesValidUniqueSpec : ChangeSpec := { name := "fnLuhnCompletesValidUnique", fn := fun _ => fun
  | [d] => { results := [.lit (.bool true)], args := [d] }
  | _ => none }
def fnLuhnCompletesValidUniqueRow : OpenClaim := { program := "qxb6000387a", sum := "f31d1e74af973da068792b8fe130dfb33b1bbd50f83dae56da74361d63811461", func := "example.com/veilcheck/veilcheck/zzlaws_internal_cachegen_b1.FnLuhnCompletesValidUnique", spec := "fnLuhnCompletesValidUnique", apart := false }
def FnLuhnCompletesValidUniqueSaid : Prop := fnLuhnCompletesValidUniqueRow.holds Try.pinned (OpenSpec.ofChange fnLuhnCompletesValidUniqueSpec)

/-- ITS FALSE NEIGHBOUR: 'it returns false'. Refute it at one input. -/
def fnLuhnCompletesValidUniqueWrong : ChangeSpec := { name := "fnLuhnCompletesValidUnique", fn := fun _ => fun
  | [d] => { results := [.lit (.bool false)], args := [d] }
  | _ => none }
def FnLuhnCompletesValidUniqueWrongFalsely : Prop := fnLuhnCompletesValidUniqueRow.holds Try.pinned (OpenSpec.ofChange fnLuhnCompletesValidUniqueWrong)

/-- 'zzlaws_internal_cachegen_b1.FnLuhnLeadingZerosIgnored': WHATEVER THE INPUT: true; the input reads as it did. -/
def fnLuhnLeadingZerosIgnoredSpec : ChangeSpec := { name := "fnLuhnLeadingZerosIgnored", fn := fun _ => fun
  | [d1, d2] => { results := [.lit (.bool true)], args := [d1, d2] }
  | _ => none }
def fnLuhnLeadingZerosIgnoredRow : OpenClaim := { program := "qxb6000387a", sum := "f31d1e74af973da068792b8fe130dfb33b1bbd50f83dae56da74361d63811461", func := "example.com/veilcheck/veilcheck/zzlaws_internal_cachegen_b1.FnLuhnLeadingZerosIgnored", spec := "fnLuhnLeadingZerosIgnored", apart := false }
def FnLuhnLeadingZerosIgnoredSaid : Prop := fnLuhnLeadingZerosIgnoredRow.holds Try.pinned (OpenSpec.ofChange fnLuhnLeadingZerosIgnoredSpec)

/-- ITS FALSE NEIGHBOUR: 'it returns false'. Refute it at one input. -/
def fnLuhnLeadingZerosIgnoredWrong : ChangeSpec := { name := "fnLuhnLeadingZerosIgnored", fn := fun _ => fun
  | [d1, d2] => { results := [.lit (.bool false)], args := [d1, d2] }
  | _ => none }
def FnLuhnLeadingZerosIgnoredWrongFalsely : Prop := fnLuhnLeadingZerosIgnoredRow.holds Try.pinned (OpenSpec.ofChange fnLuhnLeadingZerosIgnoredWrong)

/-- 'zzlaws_internal_cachegen_b1.FnLuhnDetectsSingleDigitError': WHATEVER THE INPUT: true; the input reads as it did. -/
def fnLuhnDetectsSingleDigitErrorSpec : ChangeSpec := { name := "fnLuhnDetectsSingleDigitError", fn := fun _ => fun
  | [d1, d2, d3] => { results := [.lit (.bool true)], args := [d1, d2, d3] }
  | _ => none }
def fnLuhnDetectsSingleDigitErrorRow : OpenClaim := { program := "qxb6000387a", sum := "f31d1e74af973da068792b8fe130dfb33b1bbd50f83dae56da74361d63811461", func := "example.com/veilcheck/veilcheck/zzlaws_internal_cachegen_b1.FnLuhnDetectsSingleDigitError", spec := "fnLuhnDetectsSingleDigitError", apart := false }
def FnLuhnDetectsSingleDigitErrorSaid : Prop := fnLuhnDetectsSingleDigitErrorRow.holds Try.pinned (OpenSpec.ofChange fnLuhnDetectsSingleDigitErrorSpec)

/-- ITS FALSE NEIGHBOUR: 'it returns false'. Refute it at one input. -/
def fnLuhnDetectsSingleDigitErrorWrong : ChangeSpec := { name := "fnLuhnDetectsSingleDigitError", fn := fun _ => fun
  | [d1, d2, d3] => { results := [.lit (.bool false)], args := [d1, d2, d3] }
  | _ => none }
def FnLuhnDetectsSingleDigitErrorWrongFalsely : Prop := fnLuhnDetectsSingleDigitErrorRow.holds Try.pinned (OpenSpec.ofChange fnLuhnDetectsSingleDigitErrorWrong)

/-- 'zzlaws_internal_cachegen_b1.FnMixUnmixRoundTrip': WHATEVER THE INPUT: true; the input reads as it did. -/
def fnMixUnmixRoundTripSpec : ChangeSpec := { name := "fnMixUnmixRoundTrip", fn := fun _ => fun
  | [d] => { results := [.lit (.bool true)], args := [d] }
  | _ => none }
def fnMixUnmixRoundTripRow : OpenClaim := { program := "qxb6000387a", sum := "f31d1e74af973da068792b8fe130dfb33b1bbd50f83dae56da74361d63811461", func := "example.com/veilcheck/veilcheck/zzlaws_internal_cachegen_b1.FnMixUnmixRoundTrip", spec := "fnMixUnmixRoundTrip", apart := false }
def FnMixUnmixRoundTripSaid : Prop := fnMixUnmixRoundTripRow.holds Try.pinned (OpenSpec.ofChange fnMixUnmixRoundTripSpec)

/-- ITS FALSE NEIGHBOUR: 'it returns false'. Refute it at one input. -/
def fnMixUnmixRoundTripWrong : ChangeSpec := { name := "fnMixUnmixRoundTrip", fn := fun _ => fun
  | [d] => { results := [.lit (.bool false)], args := [d] }
  | _ => none }
def FnMixUnmixRoundTripWrongFalsely : Prop := fnMixUnmixRoundTripRow.holds Try.pinned (OpenSpec.ofChange fnMixUnmixRoundTripWrong)

/-- 'zzlaws_internal_cachegen_b1.FnUnmixMixRoundTrip': WHATEVER THE INPUT: true; the input reads as it did. -/
def fnUnmixMixRoundTripSpec : ChangeSpec := { name := "fnUnmixMixRoundTrip", fn := fun _ => fun
  | [d] => { results := [.lit (.bool true)], args := [d] }
  | _ => none }
def fnUnmixMixRoundTripRow : OpenClaim := { program := "qxb6000387a", sum := "f31d1e74af973da068792b8fe130dfb33b1bbd50f83dae56da74361d63811461", func := "example.com/veilcheck/veilcheck/zzlaws_internal_cachegen_b1.FnUnmixMixRoundTrip", spec := "fnUnmixMixRoundTrip", apart := false }
def FnUnmixMixRoundTripSaid : Prop := fnUnmixMixRoundTripRow.holds Try.pinned (OpenSpec.ofChange fnUnmixMixRoundTripSpec)

/-- ITS FALSE NEIGHBOUR: 'it returns false'. Refute it at one input. -/
def fnUnmixMixRoundTripWrong : ChangeSpec := { name := "fnUnmixMixRoundTrip", fn := fun _ => fun
  | [d] => { results := [.lit (.bool false)], args := [d] }
  | _ => none }
def FnUnmixMixRoundTripWrongFalsely : Prop := fnUnmixMixRoundTripRow.holds Try.pinned (OpenSpec.ofChange fnUnmixMixRoundTripWrong)

end Rows
end Go.Proofs.Qxb6000387a
