/-
  No cell of these rows narrows 'for every input' (looked for: loops, veiled, ifaces, maps, wideKeys, modest, calm, conditions, laid).
  DERIVED. THE GIVEN ROWS OF THIS SEAT. 4 by the template 'for every input the law returns true; each argument reads behind the call as it read before'; 0 by the template 'total and deterministic' (their statements: Qxb6608790aModsTotals.lean).
  GIVEN WITH THE SEED: the statements are not yours to turn. If you find one false, say at which input.
  Laid BY PROGRAM, IN A SANDBOX (cutbox-rows.mjs): the forced cells as the released guide's own fill.sh prints them over the translation 110d141e85be2a31… (all of the seat's roots in one cut). By AI agents, Wed Nov 11 2026. No macro, syntax, notation, axiom, sorry.
-/
import Derived.Test.Qxb6608790aModsChecked
import GoSem.Claim
import GoSem.ClaimJoined
import GoSem.ClaimMapViews
import Derived.JoinedTies
import Derived.KernelRfl
namespace Go.Proofs.Qxb6608790aMods
/- THE CELL 'sum', in the pinned program and in every row, IS THE sha256 OF THE DUMP (.gsa) THAT Qxb6608790aModsProg.lean LOADS. Nothing in Lean hashes anything: it is a label: what it is worth is what the hold of that sum in a sandbox is worth. -/
noncomputable def Trym.pinned : Pinned := { name := "qxb6608790amods", sum := "110d141e85be2a31f83ff7a660b907303cc86ac07de19105be907a8f142bf77e", checked := Trym.checked }
namespace Rows
def none {H : Type} : Left H := { results := [], args := [] }

/-- 'zzlaws_internal_volume_b1.FnCloneAgreesWithUnionIntoNew': WHATEVER THE INPUT: true; the input reads as it did. -/
def fnCloneAgreesWithUnionIntoNewSpec : ChangeSpec := { name := "fnCloneAgreesWithUnionIntoNew", fn := fun _ => fun
  | [d1, d2, d3] => { results := [.lit (.bool true)], args := [d1, d2, d3] }
  | _ => none }
def fnCloneAgreesWithUnionIntoNewRow : OpenClaim := { program := "qxb6608790amods", sum := "110d141e85be2a31f83ff7a660b907303cc86ac07de19105be907a8f142bf77e", func := "example.com/lockstep/lockstep/zzlaws_internal_volume_b1.FnCloneAgreesWithUnionIntoNew", spec := "fnCloneAgreesWithUnionIntoNew", make := .lifted ["publicsums"], apart := false }
def FnCloneAgreesWithUnionIntoNewSaid : Prop := fnCloneAgreesWithUnionIntoNewRow.holds Trym.pinned (OpenSpec.ofChange fnCloneAgreesWithUnionIntoNewSpec)

/-- ITS FALSE NEIGHBOUR: 'it returns false'. Refute it at one input. -/
def fnCloneAgreesWithUnionIntoNewWrong : ChangeSpec := { name := "fnCloneAgreesWithUnionIntoNew", fn := fun _ => fun
  | [d1, d2, d3] => { results := [.lit (.bool false)], args := [d1, d2, d3] }
  | _ => none }
def FnCloneAgreesWithUnionIntoNewWrongFalsely : Prop := fnCloneAgreesWithUnionIntoNewRow.holds Trym.pinned (OpenSpec.ofChange fnCloneAgreesWithUnionIntoNewWrong)

/-- 'zzlaws_internal_volume_b1.FnCloneThenUnionIsUnionAndLeavesOriginal': WHATEVER THE INPUT: true; the input reads as it did. -/
def fnCloneThenUnionIsUnionAndLeavesOriginalSpec : ChangeSpec := { name := "fnCloneThenUnionIsUnionAndLeavesOriginal", fn := fun _ => fun
  | [d1, d2, d3, d4] => { results := [.lit (.bool true)], args := [d1, d2, d3, d4] }
  | _ => none }
def fnCloneThenUnionIsUnionAndLeavesOriginalRow : OpenClaim := { program := "qxb6608790amods", sum := "110d141e85be2a31f83ff7a660b907303cc86ac07de19105be907a8f142bf77e", func := "example.com/lockstep/lockstep/zzlaws_internal_volume_b1.FnCloneThenUnionIsUnionAndLeavesOriginal", spec := "fnCloneThenUnionIsUnionAndLeavesOriginal", make := .lifted ["publicsums"], apart := false }
def FnCloneThenUnionIsUnionAndLeavesOriginalSaid : Prop := fnCloneThenUnionIsUnionAndLeavesOriginalRow.holds Trym.pinned (OpenSpec.ofChange fnCloneThenUnionIsUnionAndLeavesOriginalSpec)

/-- ITS FALSE NEIGHBOUR: 'it returns false'. Refute it at one input. -/
def fnCloneThenUnionIsUnionAndLeavesOriginalWrong : ChangeSpec := { name := "fnCloneThenUnionIsUnionAndLeavesOriginal", fn := fun _ => fun
  | [d1, d2, d3, d4] => { results := [.lit (.bool false)], args := [d1, d2, d3, d4] }
  | _ => none }
def FnCloneThenUnionIsUnionAndLeavesOriginalWrongFalsely : Prop := fnCloneThenUnionIsUnionAndLeavesOriginalRow.holds Trym.pinned (OpenSpec.ofChange fnCloneThenUnionIsUnionAndLeavesOriginalWrong)

/-- 'zzlaws_internal_volume_b1.FnMarkRegionMarksExactlyItsRegion': WHATEVER THE INPUT: true; the input reads as it did. -/
def fnMarkRegionMarksExactlyItsRegionSpec : ChangeSpec := { name := "fnMarkRegionMarksExactlyItsRegion", fn := fun _ => fun
  | [d1, d2, d3, d4, d5] => { results := [.lit (.bool true)], args := [d1, d2, d3, d4, d5] }
  | _ => none }
def fnMarkRegionMarksExactlyItsRegionRow : OpenClaim := { program := "qxb6608790amods", sum := "110d141e85be2a31f83ff7a660b907303cc86ac07de19105be907a8f142bf77e", func := "example.com/lockstep/lockstep/zzlaws_internal_volume_b1.FnMarkRegionMarksExactlyItsRegion", spec := "fnMarkRegionMarksExactlyItsRegion", make := .lifted ["publicsums"], apart := false }
def FnMarkRegionMarksExactlyItsRegionSaid : Prop := fnMarkRegionMarksExactlyItsRegionRow.holds Trym.pinned (OpenSpec.ofChange fnMarkRegionMarksExactlyItsRegionSpec)

/-- ITS FALSE NEIGHBOUR: 'it returns false'. Refute it at one input. -/
def fnMarkRegionMarksExactlyItsRegionWrong : ChangeSpec := { name := "fnMarkRegionMarksExactlyItsRegion", fn := fun _ => fun
  | [d1, d2, d3, d4, d5] => { results := [.lit (.bool false)], args := [d1, d2, d3, d4, d5] }
  | _ => none }
def FnMarkRegionMarksExactlyItsRegionWrongFalsely : Prop := fnMarkRegionMarksExactlyItsRegionRow.holds Trym.pinned (OpenSpec.ofChange fnMarkRegionMarksExactlyItsRegionWrong)

/-- 'zzlaws_internal_volume_b1.FnMarkRegionAtEveryWordFillsVolumeOnce': WHATEVER THE INPUT: true; the input reads as it did. -/
def fnMarkRegionAtEveryWordFillsVolumeOnceSpec : ChangeSpec := { name := "fnMarkRegionAtEveryWordFillsVolumeOnce", fn := fun _ => fun
  | [d1, d2, d3, d4] => { results := [.lit (.bool true)], args := [d1, d2, d3, d4] }
  | _ => none }
def fnMarkRegionAtEveryWordFillsVolumeOnceRow : OpenClaim := { program := "qxb6608790amods", sum := "110d141e85be2a31f83ff7a660b907303cc86ac07de19105be907a8f142bf77e", func := "example.com/lockstep/lockstep/zzlaws_internal_volume_b1.FnMarkRegionAtEveryWordFillsVolumeOnce", spec := "fnMarkRegionAtEveryWordFillsVolumeOnce", make := .lifted ["publicsums"], apart := false }
def FnMarkRegionAtEveryWordFillsVolumeOnceSaid : Prop := fnMarkRegionAtEveryWordFillsVolumeOnceRow.holds Trym.pinned (OpenSpec.ofChange fnMarkRegionAtEveryWordFillsVolumeOnceSpec)

/-- ITS FALSE NEIGHBOUR: 'it returns false'. Refute it at one input. -/
def fnMarkRegionAtEveryWordFillsVolumeOnceWrong : ChangeSpec := { name := "fnMarkRegionAtEveryWordFillsVolumeOnce", fn := fun _ => fun
  | [d1, d2, d3, d4] => { results := [.lit (.bool false)], args := [d1, d2, d3, d4] }
  | _ => none }
def FnMarkRegionAtEveryWordFillsVolumeOnceWrongFalsely : Prop := fnMarkRegionAtEveryWordFillsVolumeOnceRow.holds Trym.pinned (OpenSpec.ofChange fnMarkRegionAtEveryWordFillsVolumeOnceWrong)

end Rows
end Go.Proofs.Qxb6608790aMods
