/-
  No cell of these rows narrows 'for every input' (looked for: loops, veiled, ifaces, maps, wideKeys, modest, calm, conditions, laid).
  DERIVED. THE GIVEN ROWS OF THIS SEAT. 4 by the template 'for every input the law returns true; each argument reads behind the call as it read before'; 0 by the template 'total and deterministic' (their statements: Qxb6603107aTotals.lean).
  GIVEN WITH THE SEED: the statements are not yours to turn. If you find one false, say at which input.
  Laid BY PROGRAM, IN A SANDBOX (cutbox-rows.mjs): the forced cells as the released guide's own fill.sh prints them over the translation c34242f4919531fb… (all of the seat's roots in one cut). By AI agents, Wed Nov 11 2026. No macro, syntax, notation, axiom, sorry.
-/
import Derived.Test.Qxb6603107aChecked
import GoSem.Claim
import GoSem.ClaimJoined
import GoSem.ClaimMapViews
import Derived.JoinedTies
import Derived.KernelRfl
namespace Go.Proofs.Qxb6603107a
/- THE CELL 'sum', in the pinned program and in every row, IS THE sha256 OF THE DUMP (.gsa) THAT Qxb6603107aProg.lean LOADS. Nothing in Lean hashes anything: it is a label: what it is worth is what the hold of that sum in a sandbox is worth. -/
noncomputable def Try.pinned : Pinned := { name := "qxb6603107a", sum := "c34242f4919531fb148df0a4f2d4c53056ee5fb8814782ecbc28f80377505270", checked := Try.checked }
namespace Rows
def none {H : Type} : Left H := { results := [], args := [] }

/-- 'zzlaws_jsoncodec_b1.FnHex4RoundTrip': WHATEVER THE INPUT: true; the input reads as it did. -/
def fnHex4RoundTripSpec : ChangeSpec := { name := "fnHex4RoundTrip", fn := fun _ => fun
  | [d1, d2, d3, d4] => { results := [.lit (.bool true)], args := [d1, d2, d3, d4] }
  | _ => none }
def fnHex4RoundTripRow : OpenClaim := { program := "qxb6603107a", sum := "c34242f4919531fb148df0a4f2d4c53056ee5fb8814782ecbc28f80377505270", func := "example.com/forerun/forerun/zzlaws_jsoncodec_b1.FnHex4RoundTrip", spec := "fnHex4RoundTrip", apart := false }
def FnHex4RoundTripSaid : Prop := fnHex4RoundTripRow.holds Try.pinned (OpenSpec.ofChange fnHex4RoundTripSpec)

/-- ITS FALSE NEIGHBOUR: 'it returns false'. Refute it at one input. -/
def fnHex4RoundTripWrong : ChangeSpec := { name := "fnHex4RoundTrip", fn := fun _ => fun
  | [d1, d2, d3, d4] => { results := [.lit (.bool false)], args := [d1, d2, d3, d4] }
  | _ => none }
def FnHex4RoundTripWrongFalsely : Prop := fnHex4RoundTripRow.holds Try.pinned (OpenSpec.ofChange fnHex4RoundTripWrong)

/-- 'zzlaws_jsoncodec_b1.FnKindNeverOnSpace': WHATEVER THE INPUT: true; the input reads as it did. -/
def fnKindNeverOnSpaceSpec : ChangeSpec := { name := "fnKindNeverOnSpace", fn := fun _ => fun
  | [d] => { results := [.lit (.bool true)], args := [d] }
  | _ => none }
def fnKindNeverOnSpaceRow : OpenClaim := { program := "qxb6603107a", sum := "c34242f4919531fb148df0a4f2d4c53056ee5fb8814782ecbc28f80377505270", func := "example.com/forerun/forerun/zzlaws_jsoncodec_b1.FnKindNeverOnSpace", spec := "fnKindNeverOnSpace", apart := false }
def FnKindNeverOnSpaceSaid : Prop := fnKindNeverOnSpaceRow.holds Try.pinned (OpenSpec.ofChange fnKindNeverOnSpaceSpec)

/-- ITS FALSE NEIGHBOUR: 'it returns false'. Refute it at one input. -/
def fnKindNeverOnSpaceWrong : ChangeSpec := { name := "fnKindNeverOnSpace", fn := fun _ => fun
  | [d] => { results := [.lit (.bool false)], args := [d] }
  | _ => none }
def FnKindNeverOnSpaceWrongFalsely : Prop := fnKindNeverOnSpaceRow.holds Try.pinned (OpenSpec.ofChange fnKindNeverOnSpaceWrong)

/-- 'zzlaws_jsoncodec_b1.FnSkipSpaceSpec': WHATEVER THE INPUT: true; the input reads as it did. -/
def fnSkipSpaceSpecSpec : ChangeSpec := { name := "fnSkipSpaceSpec", fn := fun _ => fun
  | [d1, d2] => { results := [.lit (.bool true)], args := [d1, d2] }
  | _ => none }
def fnSkipSpaceSpecRow : OpenClaim := { program := "qxb6603107a", sum := "c34242f4919531fb148df0a4f2d4c53056ee5fb8814782ecbc28f80377505270", func := "example.com/forerun/forerun/zzlaws_jsoncodec_b1.FnSkipSpaceSpec", spec := "fnSkipSpaceSpec", apart := false }
def FnSkipSpaceSpecSaid : Prop := fnSkipSpaceSpecRow.holds Try.pinned (OpenSpec.ofChange fnSkipSpaceSpecSpec)

/-- ITS FALSE NEIGHBOUR: 'it returns false'. Refute it at one input. -/
def fnSkipSpaceSpecWrong : ChangeSpec := { name := "fnSkipSpaceSpec", fn := fun _ => fun
  | [d1, d2] => { results := [.lit (.bool false)], args := [d1, d2] }
  | _ => none }
def FnSkipSpaceSpecWrongFalsely : Prop := fnSkipSpaceSpecRow.holds Try.pinned (OpenSpec.ofChange fnSkipSpaceSpecWrong)

/-- 'zzlaws_jsoncodec_b1.FnSkipSpaceSameLanding': WHATEVER THE INPUT: true; the input reads as it did. -/
def fnSkipSpaceSameLandingSpec : ChangeSpec := { name := "fnSkipSpaceSameLanding", fn := fun _ => fun
  | [d1, d2, d3] => { results := [.lit (.bool true)], args := [d1, d2, d3] }
  | _ => none }
def fnSkipSpaceSameLandingRow : OpenClaim := { program := "qxb6603107a", sum := "c34242f4919531fb148df0a4f2d4c53056ee5fb8814782ecbc28f80377505270", func := "example.com/forerun/forerun/zzlaws_jsoncodec_b1.FnSkipSpaceSameLanding", spec := "fnSkipSpaceSameLanding", apart := false }
def FnSkipSpaceSameLandingSaid : Prop := fnSkipSpaceSameLandingRow.holds Try.pinned (OpenSpec.ofChange fnSkipSpaceSameLandingSpec)

/-- ITS FALSE NEIGHBOUR: 'it returns false'. Refute it at one input. -/
def fnSkipSpaceSameLandingWrong : ChangeSpec := { name := "fnSkipSpaceSameLanding", fn := fun _ => fun
  | [d1, d2, d3] => { results := [.lit (.bool false)], args := [d1, d2, d3] }
  | _ => none }
def FnSkipSpaceSameLandingWrongFalsely : Prop := fnSkipSpaceSameLandingRow.holds Try.pinned (OpenSpec.ofChange fnSkipSpaceSameLandingWrong)

end Rows
end Go.Proofs.Qxb6603107a
