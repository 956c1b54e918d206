/-
  No cell of these rows narrows 'for every input' (looked for: loops, veiled, ifaces, maps, wideKeys, modest, calm, conditions, laid).
  DERIVED. THE GIVEN ROWS OF THIS SEAT. 1 by the template 'for every input the law returns true; each argument reads behind the call as it read before'; 0 by the template 'total and deterministic' (their statements: Qxb6617013aTotals.lean).
  GIVEN WITH THE SEED: the statements are not yours to turn. If you find one false, say at which input.
  Laid BY PROGRAM, IN A SANDBOX (cutbox-rows.mjs): the forced cells as the released guide's own fill.sh prints them over the translation fe38a980255c23bb… (all of the seat's roots in one cut). By AI agents, Wed Nov 11 2026. No macro, syntax, notation, axiom, sorry.
-/
import Derived.Test.Qxb6617013aChecked
import GoSem.Claim
import GoSem.ClaimJoined
import GoSem.ClaimMapViews
import Derived.JoinedTies
import Derived.KernelRfl
namespace Go.Proofs.Qxb6617013a
/- THE CELL 'sum', in the pinned program and in every row, IS THE sha256 OF THE DUMP (.gsa) THAT Qxb6617013aProg.lean LOADS. Nothing in Lean hashes anything: it is a label: what it is worth is what the hold of that sum in a sandbox is worth. -/
noncomputable def Try.pinned : Pinned := { name := "qxb6617013a", sum := "fe38a980255c23bb1f732fe6f0a37c23080e524866a227e2f1e6ffd3b4378698", checked := Try.checked }
namespace Rows
def none {H : Type} : Left H := { results := [], args := [] }

/-- 'zzlaws_sip_b1.FnCancelsFactorsByMethod': WHATEVER THE INPUT: true; the input reads as it did. -/
def fnCancelsFactorsByMethodSpec : ChangeSpec := { name := "fnCancelsFactorsByMethod", fn := fun _ => fun
  | [d1, d2, d3, d4] => { results := [.lit (.bool true)], args := [d1, d2, d3, d4] }
  | _ => none }
def fnCancelsFactorsByMethodRow : OpenClaim := { program := "qxb6617013a", sum := "fe38a980255c23bb1f732fe6f0a37c23080e524866a227e2f1e6ffd3b4378698", func := "example.com/sightline/sightline/zzlaws_sip_b1.FnCancelsFactorsByMethod", spec := "fnCancelsFactorsByMethod", plainKeys := false, apart := false }
def FnCancelsFactorsByMethodSaid : Prop := fnCancelsFactorsByMethodRow.holds Try.pinned (OpenSpec.ofChange fnCancelsFactorsByMethodSpec)

/-- ITS FALSE NEIGHBOUR: 'it returns false'. Refute it at one input. -/
def fnCancelsFactorsByMethodWrong : ChangeSpec := { name := "fnCancelsFactorsByMethod", fn := fun _ => fun
  | [d1, d2, d3, d4] => { results := [.lit (.bool false)], args := [d1, d2, d3, d4] }
  | _ => none }
def FnCancelsFactorsByMethodWrongFalsely : Prop := fnCancelsFactorsByMethodRow.holds Try.pinned (OpenSpec.ofChange fnCancelsFactorsByMethodWrong)

end Rows
end Go.Proofs.Qxb6617013a
