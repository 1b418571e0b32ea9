/-
  No cell of these rows narrows 'for every input' (looked for: loops, veiled, ifaces, maps, wideKeys, modest, calm, conditions, laid).
  DERIVED. THE GIVEN ROWS OF THIS SEAT. 3 by the template 'for every input the law returns true; each argument reads behind the call as it read before'; 0 by the template 'total and deterministic' (their statements: Qxb6617130aModsTotals.lean).
  GIVEN WITH THE SEED: the statements are not yours to turn. If you find one false, say at which input.
  Laid BY PROGRAM, IN A SANDBOX (cutbox-rows.mjs): the forced cells as the released guide's own fill.sh prints them over the translation 710ed361a2af332b… (all of the seat's roots in one cut). By AI agents, Wed Nov 11 2026. No macro, syntax, notation, axiom, sorry.
-/
import Derived.Test.Qxb6617130aModsChecked
import GoSem.Claim
import GoSem.ClaimJoined
import GoSem.ClaimMapViews
import Derived.JoinedTies
import Derived.KernelRfl
namespace Go.Proofs.Qxb6617130aMods
/- THE CELL 'sum', in the pinned program and in every row, IS THE sha256 OF THE DUMP (.gsa) THAT Qxb6617130aModsProg.lean LOADS. Nothing in Lean hashes anything: it is a label: what it is worth is what the hold of that sum in a sandbox is worth. -/
noncomputable def Trym.pinned : Pinned := { name := "qxb6617130amods", sum := "710ed361a2af332b2d12107e6545add8d73e204d0bfbebe8043d4d74f9dd549e", checked := Trym.checked }
namespace Rows
def none {H : Type} : Left H := { results := [], args := [] }

/-- 'zzlaws_aws_b1.FnRegionDomainDecidedByCnPrefix': WHATEVER THE INPUT: true; the input reads as it did. -/
def fnRegionDomainDecidedByCnPrefixSpec : ChangeSpec := { name := "fnRegionDomainDecidedByCnPrefix", fn := fun _ => fun
  | [d1, d2] => { results := [.lit (.bool true)], args := [d1, d2] }
  | _ => none }
def fnRegionDomainDecidedByCnPrefixRow : OpenClaim := { program := "qxb6617130amods", sum := "710ed361a2af332b2d12107e6545add8d73e204d0bfbebe8043d4d74f9dd549e", func := "example.com/leasekey/leasekey/zzlaws_aws_b1.FnRegionDomainDecidedByCnPrefix", spec := "fnRegionDomainDecidedByCnPrefix", make := .lifted ["publicsums"], apart := false }
def FnRegionDomainDecidedByCnPrefixSaid : Prop := fnRegionDomainDecidedByCnPrefixRow.holds Trym.pinned (OpenSpec.ofChange fnRegionDomainDecidedByCnPrefixSpec)

/-- ITS FALSE NEIGHBOUR: 'it returns false'. Refute it at one input. -/
def fnRegionDomainDecidedByCnPrefixWrong : ChangeSpec := { name := "fnRegionDomainDecidedByCnPrefix", fn := fun _ => fun
  | [d1, d2] => { results := [.lit (.bool false)], args := [d1, d2] }
  | _ => none }
def FnRegionDomainDecidedByCnPrefixWrongFalsely : Prop := fnRegionDomainDecidedByCnPrefixRow.holds Trym.pinned (OpenSpec.ofChange fnRegionDomainDecidedByCnPrefixWrong)

/-- 'zzlaws_aws_b1.FnSignedSecretsIgnoreTheSecretKey': WHATEVER THE INPUT: true; the input reads as it did. -/
def fnSignedSecretsIgnoreTheSecretKeySpec : ChangeSpec := { name := "fnSignedSecretsIgnoreTheSecretKey", fn := fun _ => fun
  | [d1, d2, d3, d4, d5] => { results := [.lit (.bool true)], args := [d1, d2, d3, d4, d5] }
  | _ => none }
def fnSignedSecretsIgnoreTheSecretKeyRow : OpenClaim := { program := "qxb6617130amods", sum := "710ed361a2af332b2d12107e6545add8d73e204d0bfbebe8043d4d74f9dd549e", func := "example.com/leasekey/leasekey/zzlaws_aws_b1.FnSignedSecretsIgnoreTheSecretKey", spec := "fnSignedSecretsIgnoreTheSecretKey", make := .lifted ["publicsums"], apart := false }
def FnSignedSecretsIgnoreTheSecretKeySaid : Prop := fnSignedSecretsIgnoreTheSecretKeyRow.holds Trym.pinned (OpenSpec.ofChange fnSignedSecretsIgnoreTheSecretKeySpec)

/-- ITS FALSE NEIGHBOUR: 'it returns false'. Refute it at one input. -/
def fnSignedSecretsIgnoreTheSecretKeyWrong : ChangeSpec := { name := "fnSignedSecretsIgnoreTheSecretKey", fn := fun _ => fun
  | [d1, d2, d3, d4, d5] => { results := [.lit (.bool false)], args := [d1, d2, d3, d4, d5] }
  | _ => none }
def FnSignedSecretsIgnoreTheSecretKeyWrongFalsely : Prop := fnSignedSecretsIgnoreTheSecretKeyRow.holds Trym.pinned (OpenSpec.ofChange fnSignedSecretsIgnoreTheSecretKeyWrong)

/-- 'zzlaws_aws_b1.FnSignedSecretsMarksFixedAndApart': WHATEVER THE INPUT: true; the input reads as it did. -/
def fnSignedSecretsMarksFixedAndApartSpec : ChangeSpec := { name := "fnSignedSecretsMarksFixedAndApart", fn := fun _ => fun
  | [d1, d2, d3, d4, d5, d6, d7, d8] => { results := [.lit (.bool true)], args := [d1, d2, d3, d4, d5, d6, d7, d8] }
  | _ => none }
def fnSignedSecretsMarksFixedAndApartRow : OpenClaim := { program := "qxb6617130amods", sum := "710ed361a2af332b2d12107e6545add8d73e204d0bfbebe8043d4d74f9dd549e", func := "example.com/leasekey/leasekey/zzlaws_aws_b1.FnSignedSecretsMarksFixedAndApart", spec := "fnSignedSecretsMarksFixedAndApart", make := .lifted ["publicsums"], apart := false }
def FnSignedSecretsMarksFixedAndApartSaid : Prop := fnSignedSecretsMarksFixedAndApartRow.holds Trym.pinned (OpenSpec.ofChange fnSignedSecretsMarksFixedAndApartSpec)

/-- ITS FALSE NEIGHBOUR: 'it returns false'. Refute it at one input. -/
def fnSignedSecretsMarksFixedAndApartWrong : ChangeSpec := { name := "fnSignedSecretsMarksFixedAndApart", fn := fun _ => fun
  | [d1, d2, d3, d4, d5, d6, d7, d8] => { results := [.lit (.bool false)], args := [d1, d2, d3, d4, d5, d6, d7, d8] }
  | _ => none }
def FnSignedSecretsMarksFixedAndApartWrongFalsely : Prop := fnSignedSecretsMarksFixedAndApartRow.holds Trym.pinned (OpenSpec.ofChange fnSignedSecretsMarksFixedAndApartWrong)

end Rows
end Go.Proofs.Qxb6617130aMods
