/-
  No cell of these rows narrows 'for every input' (looked for: loops, veiled, ifaces, maps, wideKeys, modest, calm, conditions, laid).
  DERIVED. THE GIVEN ROWS OF THIS SEAT. 4 by the template 'for every input the law returns true; each argument reads behind the call as it read before'; 0 by the template 'total and deterministic' (their statements: Qxb6000614aTotals.lean).
  GIVEN WITH THE SEED: the statements are not yours to turn. If you find one false, say at which input.
  Laid BY PROGRAM, IN A SANDBOX (cutbox-rows.mjs): the forced cells as the released guide's own fill.sh prints them over the translation 43420c3b0624070f… (all of the seat's roots in one cut). By AI agents, Wed Nov 11 2026. No macro, syntax, notation, axiom, sorry.
-/
import Derived.Test.Qxb6000614aChecked
import GoSem.Claim
import GoSem.ClaimJoined
import GoSem.ClaimMapViews
import Derived.JoinedTies
import Derived.KernelRfl
namespace Go.Proofs.Qxb6000614a
/- THE CELL 'sum', in the pinned program and in every row, IS THE sha256 OF THE DUMP (.gsa) THAT Qxb6000614aProg.lean LOADS. Nothing in Lean hashes anything: it is a label: what it is worth is what the hold of that sum in a sandbox is worth. -/
noncomputable def Try.pinned : Pinned := { name := "qxb6000614a", sum := "43420c3b0624070f73e268999d7415e3c9570e85115d68bdc0774ba815095e7f", checked := Try.checked }
namespace Rows
def none {H : Type} : Left H := { results := [], args := [] }

/-- 'zzlaws_internal_registry_b1.FnValueQuotedRoundTrip': WHATEVER THE INPUT: true; the input reads as it did. -/
def fnValueQuotedRoundTripSpec : ChangeSpec := { name := "fnValueQuotedRoundTrip", fn := fun _ => fun
  | [d1, d2, d3] => { results := [.lit (.bool true)], args := [d1, d2, d3] }
  | _ => none }
def fnValueQuotedRoundTripRow : OpenClaim := { program := "qxb6000614a", sum := "43420c3b0624070f73e268999d7415e3c9570e85115d68bdc0774ba815095e7f", func := "example.com/ribband/ribband/zzlaws_internal_registry_b1.FnValueQuotedRoundTrip", spec := "fnValueQuotedRoundTrip", inPlace := ["internal/bytealg.IndexByteString", "internal/abi.NoEscape"], apart := false }
def FnValueQuotedRoundTripSaid : Prop := fnValueQuotedRoundTripRow.holds Try.pinned (OpenSpec.ofChange fnValueQuotedRoundTripSpec)

/-- ITS FALSE NEIGHBOUR: 'it returns false'. Refute it at one input. -/
def fnValueQuotedRoundTripWrong : ChangeSpec := { name := "fnValueQuotedRoundTrip", fn := fun _ => fun
  | [d1, d2, d3] => { results := [.lit (.bool false)], args := [d1, d2, d3] }
  | _ => none }
def FnValueQuotedRoundTripWrongFalsely : Prop := fnValueQuotedRoundTripRow.holds Try.pinned (OpenSpec.ofChange fnValueQuotedRoundTripWrong)

/-- 'zzlaws_internal_registry_b1.FnValueUnterminatedRefused': WHATEVER THE INPUT: true; the input reads as it did. -/
def fnValueUnterminatedRefusedSpec : ChangeSpec := { name := "fnValueUnterminatedRefused", fn := fun _ => fun
  | [d1, d2, d3] => { results := [.lit (.bool true)], args := [d1, d2, d3] }
  | _ => none }
def fnValueUnterminatedRefusedRow : OpenClaim := { program := "qxb6000614a", sum := "43420c3b0624070f73e268999d7415e3c9570e85115d68bdc0774ba815095e7f", func := "example.com/ribband/ribband/zzlaws_internal_registry_b1.FnValueUnterminatedRefused", spec := "fnValueUnterminatedRefused", inPlace := ["internal/bytealg.IndexByteString", "internal/abi.NoEscape"], apart := false }
def FnValueUnterminatedRefusedSaid : Prop := fnValueUnterminatedRefusedRow.holds Try.pinned (OpenSpec.ofChange fnValueUnterminatedRefusedSpec)

/-- ITS FALSE NEIGHBOUR: 'it returns false'. Refute it at one input. -/
def fnValueUnterminatedRefusedWrong : ChangeSpec := { name := "fnValueUnterminatedRefused", fn := fun _ => fun
  | [d1, d2, d3] => { results := [.lit (.bool false)], args := [d1, d2, d3] }
  | _ => none }
def FnValueUnterminatedRefusedWrongFalsely : Prop := fnValueUnterminatedRefusedRow.holds Try.pinned (OpenSpec.ofChange fnValueUnterminatedRefusedWrong)

/-- 'zzlaws_internal_registry_b1.FnValueBounds': WHATEVER THE INPUT: true; the input reads as it did. -/
def fnValueBoundsSpec : ChangeSpec := { name := "fnValueBounds", fn := fun _ => fun
  | [d1, d2] => { results := [.lit (.bool true)], args := [d1, d2] }
  | _ => none }
def fnValueBoundsRow : OpenClaim := { program := "qxb6000614a", sum := "43420c3b0624070f73e268999d7415e3c9570e85115d68bdc0774ba815095e7f", func := "example.com/ribband/ribband/zzlaws_internal_registry_b1.FnValueBounds", spec := "fnValueBounds", inPlace := ["internal/bytealg.IndexByteString", "internal/abi.NoEscape"], apart := false }
def FnValueBoundsSaid : Prop := fnValueBoundsRow.holds Try.pinned (OpenSpec.ofChange fnValueBoundsSpec)

/-- ITS FALSE NEIGHBOUR: 'it returns false'. Refute it at one input. -/
def fnValueBoundsWrong : ChangeSpec := { name := "fnValueBounds", fn := fun _ => fun
  | [d1, d2] => { results := [.lit (.bool false)], args := [d1, d2] }
  | _ => none }
def FnValueBoundsWrongFalsely : Prop := fnValueBoundsRow.holds Try.pinned (OpenSpec.ofChange fnValueBoundsWrong)

/-- 'zzlaws_internal_registry_b1.FnFindFirstMatch': WHATEVER THE INPUT: true; the input reads as it did. -/
def fnFindFirstMatchSpec : ChangeSpec := { name := "fnFindFirstMatch", fn := fun _ => fun
  | [d1, d2] => { results := [.lit (.bool true)], args := [d1, d2] }
  | _ => none }
def fnFindFirstMatchRow : OpenClaim := { program := "qxb6000614a", sum := "43420c3b0624070f73e268999d7415e3c9570e85115d68bdc0774ba815095e7f", func := "example.com/ribband/ribband/zzlaws_internal_registry_b1.FnFindFirstMatch", spec := "fnFindFirstMatch", apart := false }
def FnFindFirstMatchSaid : Prop := fnFindFirstMatchRow.holds Try.pinned (OpenSpec.ofChange fnFindFirstMatchSpec)

/-- ITS FALSE NEIGHBOUR: 'it returns false'. Refute it at one input. -/
def fnFindFirstMatchWrong : ChangeSpec := { name := "fnFindFirstMatch", fn := fun _ => fun
  | [d1, d2] => { results := [.lit (.bool false)], args := [d1, d2] }
  | _ => none }
def FnFindFirstMatchWrongFalsely : Prop := fnFindFirstMatchRow.holds Try.pinned (OpenSpec.ofChange fnFindFirstMatchWrong)

end Rows
end Go.Proofs.Qxb6000614a
