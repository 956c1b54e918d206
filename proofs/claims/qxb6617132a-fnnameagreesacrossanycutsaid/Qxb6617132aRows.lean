/-
  No cell of these rows narrows 'for every input' (looked for: loops, veiled, ifaces, maps, wideKeys, modest, calm, conditions, laid).
  DERIVED. THE GIVEN ROWS OF THIS SEAT. 7 by the template 'for every input the law returns true; each argument reads behind the call as it read before'; 0 by the template 'total and deterministic' (their statements: Qxb6617132aTotals.lean).
  GIVEN WITH THE SEED: the statements are not yours to turn. If you find one false, say at which input.
  Laid BY PROGRAM, IN A SANDBOX (cutbox-rows.mjs): the forced cells as the released guide's own fill.sh prints them over the translation 5ebde21fe7cfb811… (all of the seat's roots in one cut). By AI agents, Wed Nov 11 2026. No macro, syntax, notation, axiom, sorry.
-/
import Derived.Test.Qxb6617132aChecked
import GoSem.Claim
import GoSem.ClaimJoined
import GoSem.ClaimMapViews
import Derived.JoinedTies
import Derived.KernelRfl
namespace Go.Proofs.Qxb6617132a
/- THE CELL 'sum', in the pinned program and in every row, IS THE sha256 OF THE DUMP (.gsa) THAT Qxb6617132aProg.lean LOADS. Nothing in Lean hashes anything: it is a label: what it is worth is what the hold of that sum in a sandbox is worth. -/
noncomputable def Try.pinned : Pinned := { name := "qxb6617132a", sum := "5ebde21fe7cfb811c4ee0e866eba53fbd77fa979b77005eaa6941a89eece7f21", checked := Try.checked }
namespace Rows
def none {H : Type} : Left H := { results := [], args := [] }

/-- 'zzlaws_metric_b1.FnPeekSkipsBlanksToNextByte': WHATEVER THE INPUT: true; the input reads as it did. -/
def fnPeekSkipsBlanksToNextByteSpec : ChangeSpec := { name := "fnPeekSkipsBlanksToNextByte", fn := fun _ => fun
  | [d1, d2] => { results := [.lit (.bool true)], args := [d1, d2] }
  | _ => none }
def fnPeekSkipsBlanksToNextByteRow : OpenClaim := { program := "qxb6617132a", sum := "5ebde21fe7cfb811c4ee0e866eba53fbd77fa979b77005eaa6941a89eece7f21", func := "example.com/vestline/vestline/zzlaws_metric_b1.FnPeekSkipsBlanksToNextByte", spec := "fnPeekSkipsBlanksToNextByte", apart := false }
def FnPeekSkipsBlanksToNextByteSaid : Prop := fnPeekSkipsBlanksToNextByteRow.holds Try.pinned (OpenSpec.ofChange fnPeekSkipsBlanksToNextByteSpec)

/-- ITS FALSE NEIGHBOUR: 'it returns false'. Refute it at one input. -/
def fnPeekSkipsBlanksToNextByteWrong : ChangeSpec := { name := "fnPeekSkipsBlanksToNextByte", fn := fun _ => fun
  | [d1, d2] => { results := [.lit (.bool false)], args := [d1, d2] }
  | _ => none }
def FnPeekSkipsBlanksToNextByteWrongFalsely : Prop := fnPeekSkipsBlanksToNextByteRow.holds Try.pinned (OpenSpec.ofChange fnPeekSkipsBlanksToNextByteWrong)

/-- 'zzlaws_metric_b1.FnPeekAgreesAcrossAnyCut': WHATEVER THE INPUT: true; the input reads as it did. -/
def fnPeekAgreesAcrossAnyCutSpec : ChangeSpec := { name := "fnPeekAgreesAcrossAnyCut", fn := fun _ => fun
  | [d1, d2, d3] => { results := [.lit (.bool true)], args := [d1, d2, d3] }
  | _ => none }
def fnPeekAgreesAcrossAnyCutRow : OpenClaim := { program := "qxb6617132a", sum := "5ebde21fe7cfb811c4ee0e866eba53fbd77fa979b77005eaa6941a89eece7f21", func := "example.com/vestline/vestline/zzlaws_metric_b1.FnPeekAgreesAcrossAnyCut", spec := "fnPeekAgreesAcrossAnyCut", apart := false }
def FnPeekAgreesAcrossAnyCutSaid : Prop := fnPeekAgreesAcrossAnyCutRow.holds Try.pinned (OpenSpec.ofChange fnPeekAgreesAcrossAnyCutSpec)

/-- ITS FALSE NEIGHBOUR: 'it returns false'. Refute it at one input. -/
def fnPeekAgreesAcrossAnyCutWrong : ChangeSpec := { name := "fnPeekAgreesAcrossAnyCut", fn := fun _ => fun
  | [d1, d2, d3] => { results := [.lit (.bool false)], args := [d1, d2, d3] }
  | _ => none }
def FnPeekAgreesAcrossAnyCutWrongFalsely : Prop := fnPeekAgreesAcrossAnyCutRow.holds Try.pinned (OpenSpec.ofChange fnPeekAgreesAcrossAnyCutWrong)

/-- 'zzlaws_metric_b1.FnNameTakesLongestNameRun': WHATEVER THE INPUT: true; the input reads as it did. -/
def fnNameTakesLongestNameRunSpec : ChangeSpec := { name := "fnNameTakesLongestNameRun", fn := fun _ => fun
  | [d1, d2] => { results := [.lit (.bool true)], args := [d1, d2] }
  | _ => none }
def fnNameTakesLongestNameRunRow : OpenClaim := { program := "qxb6617132a", sum := "5ebde21fe7cfb811c4ee0e866eba53fbd77fa979b77005eaa6941a89eece7f21", func := "example.com/vestline/vestline/zzlaws_metric_b1.FnNameTakesLongestNameRun", spec := "fnNameTakesLongestNameRun", apart := false }
def FnNameTakesLongestNameRunSaid : Prop := fnNameTakesLongestNameRunRow.holds Try.pinned (OpenSpec.ofChange fnNameTakesLongestNameRunSpec)

/-- ITS FALSE NEIGHBOUR: 'it returns false'. Refute it at one input. -/
def fnNameTakesLongestNameRunWrong : ChangeSpec := { name := "fnNameTakesLongestNameRun", fn := fun _ => fun
  | [d1, d2] => { results := [.lit (.bool false)], args := [d1, d2] }
  | _ => none }
def FnNameTakesLongestNameRunWrongFalsely : Prop := fnNameTakesLongestNameRunRow.holds Try.pinned (OpenSpec.ofChange fnNameTakesLongestNameRunWrong)

/-- 'zzlaws_metric_b1.FnNameAgreesAcrossAnyCut': WHATEVER THE INPUT: true; the input reads as it did. -/
def fnNameAgreesAcrossAnyCutSpec : ChangeSpec := { name := "fnNameAgreesAcrossAnyCut", fn := fun _ => fun
  | [d1, d2, d3] => { results := [.lit (.bool true)], args := [d1, d2, d3] }
  | _ => none }
def fnNameAgreesAcrossAnyCutRow : OpenClaim := { program := "qxb6617132a", sum := "5ebde21fe7cfb811c4ee0e866eba53fbd77fa979b77005eaa6941a89eece7f21", func := "example.com/vestline/vestline/zzlaws_metric_b1.FnNameAgreesAcrossAnyCut", spec := "fnNameAgreesAcrossAnyCut", apart := false }
def FnNameAgreesAcrossAnyCutSaid : Prop := fnNameAgreesAcrossAnyCutRow.holds Try.pinned (OpenSpec.ofChange fnNameAgreesAcrossAnyCutSpec)

/-- ITS FALSE NEIGHBOUR: 'it returns false'. Refute it at one input. -/
def fnNameAgreesAcrossAnyCutWrong : ChangeSpec := { name := "fnNameAgreesAcrossAnyCut", fn := fun _ => fun
  | [d1, d2, d3] => { results := [.lit (.bool false)], args := [d1, d2, d3] }
  | _ => none }
def FnNameAgreesAcrossAnyCutWrongFalsely : Prop := fnNameAgreesAcrossAnyCutRow.holds Try.pinned (OpenSpec.ofChange fnNameAgreesAcrossAnyCutWrong)

/-- 'zzlaws_metric_b1.FnDigitsStopsAtFirstNonDigit': WHATEVER THE INPUT: true; the input reads as it did. -/
def fnDigitsStopsAtFirstNonDigitSpec : ChangeSpec := { name := "fnDigitsStopsAtFirstNonDigit", fn := fun _ => fun
  | [d1, d2] => { results := [.lit (.bool true)], args := [d1, d2] }
  | _ => none }
def fnDigitsStopsAtFirstNonDigitRow : OpenClaim := { program := "qxb6617132a", sum := "5ebde21fe7cfb811c4ee0e866eba53fbd77fa979b77005eaa6941a89eece7f21", func := "example.com/vestline/vestline/zzlaws_metric_b1.FnDigitsStopsAtFirstNonDigit", spec := "fnDigitsStopsAtFirstNonDigit", apart := false }
def FnDigitsStopsAtFirstNonDigitSaid : Prop := fnDigitsStopsAtFirstNonDigitRow.holds Try.pinned (OpenSpec.ofChange fnDigitsStopsAtFirstNonDigitSpec)

/-- ITS FALSE NEIGHBOUR: 'it returns false'. Refute it at one input. -/
def fnDigitsStopsAtFirstNonDigitWrong : ChangeSpec := { name := "fnDigitsStopsAtFirstNonDigit", fn := fun _ => fun
  | [d1, d2] => { results := [.lit (.bool false)], args := [d1, d2] }
  | _ => none }
def FnDigitsStopsAtFirstNonDigitWrongFalsely : Prop := fnDigitsStopsAtFirstNonDigitRow.holds Try.pinned (OpenSpec.ofChange fnDigitsStopsAtFirstNonDigitWrong)

/-- 'zzlaws_metric_b1.FnDigitsAgreesAcrossAnyCut': WHATEVER THE INPUT: true; the input reads as it did. -/
def fnDigitsAgreesAcrossAnyCutSpec : ChangeSpec := { name := "fnDigitsAgreesAcrossAnyCut", fn := fun _ => fun
  | [d1, d2, d3] => { results := [.lit (.bool true)], args := [d1, d2, d3] }
  | _ => none }
def fnDigitsAgreesAcrossAnyCutRow : OpenClaim := { program := "qxb6617132a", sum := "5ebde21fe7cfb811c4ee0e866eba53fbd77fa979b77005eaa6941a89eece7f21", func := "example.com/vestline/vestline/zzlaws_metric_b1.FnDigitsAgreesAcrossAnyCut", spec := "fnDigitsAgreesAcrossAnyCut", apart := false }
def FnDigitsAgreesAcrossAnyCutSaid : Prop := fnDigitsAgreesAcrossAnyCutRow.holds Try.pinned (OpenSpec.ofChange fnDigitsAgreesAcrossAnyCutSpec)

/-- ITS FALSE NEIGHBOUR: 'it returns false'. Refute it at one input. -/
def fnDigitsAgreesAcrossAnyCutWrong : ChangeSpec := { name := "fnDigitsAgreesAcrossAnyCut", fn := fun _ => fun
  | [d1, d2, d3] => { results := [.lit (.bool false)], args := [d1, d2, d3] }
  | _ => none }
def FnDigitsAgreesAcrossAnyCutWrongFalsely : Prop := fnDigitsAgreesAcrossAnyCutRow.holds Try.pinned (OpenSpec.ofChange fnDigitsAgreesAcrossAnyCutWrong)

/-- 'zzlaws_metric_b1.FnNameIsDigitRunThenNameFromThere': WHATEVER THE INPUT: true; the input reads as it did. -/
def fnNameIsDigitRunThenNameFromThereSpec : ChangeSpec := { name := "fnNameIsDigitRunThenNameFromThere", fn := fun _ => fun
  | [d1, d2] => { results := [.lit (.bool true)], args := [d1, d2] }
  | _ => none }
def fnNameIsDigitRunThenNameFromThereRow : OpenClaim := { program := "qxb6617132a", sum := "5ebde21fe7cfb811c4ee0e866eba53fbd77fa979b77005eaa6941a89eece7f21", func := "example.com/vestline/vestline/zzlaws_metric_b1.FnNameIsDigitRunThenNameFromThere", spec := "fnNameIsDigitRunThenNameFromThere", apart := false }
def FnNameIsDigitRunThenNameFromThereSaid : Prop := fnNameIsDigitRunThenNameFromThereRow.holds Try.pinned (OpenSpec.ofChange fnNameIsDigitRunThenNameFromThereSpec)

/-- ITS FALSE NEIGHBOUR: 'it returns false'. Refute it at one input. -/
def fnNameIsDigitRunThenNameFromThereWrong : ChangeSpec := { name := "fnNameIsDigitRunThenNameFromThere", fn := fun _ => fun
  | [d1, d2] => { results := [.lit (.bool false)], args := [d1, d2] }
  | _ => none }
def FnNameIsDigitRunThenNameFromThereWrongFalsely : Prop := fnNameIsDigitRunThenNameFromThereRow.holds Try.pinned (OpenSpec.ofChange fnNameIsDigitRunThenNameFromThereWrong)

end Rows
end Go.Proofs.Qxb6617132a
