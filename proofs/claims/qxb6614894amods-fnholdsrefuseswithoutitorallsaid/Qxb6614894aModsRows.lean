/-
  No cell of these rows narrows 'for every input' (looked for: loops, veiled, ifaces, maps, wideKeys, modest, calm, conditions, laid).
  DERIVED. THE GIVEN ROWS OF THIS SEAT. 2 by the template 'for every input the law returns true; each argument reads behind the call as it read before'; 0 by the template 'total and deterministic' (their statements: Qxb6614894aModsTotals.lean).
  GIVEN WITH THE SEED: the statements are not yours to turn. If you find one false, say at which input.
  Laid BY PROGRAM, IN A SANDBOX (cutbox-rows.mjs): the forced cells as the released guide's own fill.sh prints them over the translation 6ed7b5b761b39669… (all of the seat's roots in one cut). By AI agents, Wed Nov 11 2026. No macro, syntax, notation, axiom, sorry.
-/
import Derived.Test.Qxb6614894aModsChecked
import GoSem.Claim
import GoSem.ClaimJoined
import GoSem.ClaimMapViews
import Derived.JoinedTies
import Derived.KernelRfl
namespace Go.Proofs.Qxb6614894aMods
/- THE CELL 'sum', in the pinned program and in every row, IS THE sha256 OF THE DUMP (.gsa) THAT Qxb6614894aModsProg.lean LOADS. Nothing in Lean hashes anything: it is a label: what it is worth is what the hold of that sum in a sandbox is worth. -/
noncomputable def Trym.pinned : Pinned := { name := "qxb6614894amods", sum := "6ed7b5b761b396699214090d2728b8fe61dd0933cc69e9fe7ee791598e877eca", checked := Trym.checked }
namespace Rows
def none {H : Type} : Left H := { results := [], args := [] }

/-- 'zzlaws_root_b1.FnHoldsJoinsAtAnyCutAndGrantsWhatIsAdded': WHATEVER THE INPUT: true; the input reads as it did. -/
def fnHoldsJoinsAtAnyCutAndGrantsWhatIsAddedSpec : ChangeSpec := { name := "fnHoldsJoinsAtAnyCutAndGrantsWhatIsAdded", fn := fun _ => fun
  | [d1, d2, d3] => { results := [.lit (.bool true)], args := [d1, d2, d3] }
  | _ => none }
def fnHoldsJoinsAtAnyCutAndGrantsWhatIsAddedRow : OpenClaim := { program := "qxb6614894amods", sum := "6ed7b5b761b396699214090d2728b8fe61dd0933cc69e9fe7ee791598e877eca", func := "example.com/hawiya/hawiya/zzlaws_root_b1.FnHoldsJoinsAtAnyCutAndGrantsWhatIsAdded", spec := "fnHoldsJoinsAtAnyCutAndGrantsWhatIsAdded", make := .lifted ["publicsums"], apart := false }
def FnHoldsJoinsAtAnyCutAndGrantsWhatIsAddedSaid : Prop := fnHoldsJoinsAtAnyCutAndGrantsWhatIsAddedRow.holds Trym.pinned (OpenSpec.ofChange fnHoldsJoinsAtAnyCutAndGrantsWhatIsAddedSpec)

/-- ITS FALSE NEIGHBOUR: 'it returns false'. Refute it at one input. -/
def fnHoldsJoinsAtAnyCutAndGrantsWhatIsAddedWrong : ChangeSpec := { name := "fnHoldsJoinsAtAnyCutAndGrantsWhatIsAdded", fn := fun _ => fun
  | [d1, d2, d3] => { results := [.lit (.bool false)], args := [d1, d2, d3] }
  | _ => none }
def FnHoldsJoinsAtAnyCutAndGrantsWhatIsAddedWrongFalsely : Prop := fnHoldsJoinsAtAnyCutAndGrantsWhatIsAddedRow.holds Trym.pinned (OpenSpec.ofChange fnHoldsJoinsAtAnyCutAndGrantsWhatIsAddedWrong)

/-- 'zzlaws_root_b1.FnHoldsRefusesWithoutItOrAll': WHATEVER THE INPUT: true; the input reads as it did. -/
def fnHoldsRefusesWithoutItOrAllSpec : ChangeSpec := { name := "fnHoldsRefusesWithoutItOrAll", fn := fun _ => fun
  | [d1, d2, d3] => { results := [.lit (.bool true)], args := [d1, d2, d3] }
  | _ => none }
def fnHoldsRefusesWithoutItOrAllRow : OpenClaim := { program := "qxb6614894amods", sum := "6ed7b5b761b396699214090d2728b8fe61dd0933cc69e9fe7ee791598e877eca", func := "example.com/hawiya/hawiya/zzlaws_root_b1.FnHoldsRefusesWithoutItOrAll", spec := "fnHoldsRefusesWithoutItOrAll", make := .lifted ["publicsums"], apart := false }
def FnHoldsRefusesWithoutItOrAllSaid : Prop := fnHoldsRefusesWithoutItOrAllRow.holds Trym.pinned (OpenSpec.ofChange fnHoldsRefusesWithoutItOrAllSpec)

/-- ITS FALSE NEIGHBOUR: 'it returns false'. Refute it at one input. -/
def fnHoldsRefusesWithoutItOrAllWrong : ChangeSpec := { name := "fnHoldsRefusesWithoutItOrAll", fn := fun _ => fun
  | [d1, d2, d3] => { results := [.lit (.bool false)], args := [d1, d2, d3] }
  | _ => none }
def FnHoldsRefusesWithoutItOrAllWrongFalsely : Prop := fnHoldsRefusesWithoutItOrAllRow.holds Trym.pinned (OpenSpec.ofChange fnHoldsRefusesWithoutItOrAllWrong)

end Rows
end Go.Proofs.Qxb6614894aMods
