/-
  No cell of these rows narrows 'for every input' (looked for: loops, veiled, ifaces, maps, wideKeys, modest, calm, conditions, laid).
  DERIVED. THE GIVEN ROWS OF THIS SEAT. 4 by the template 'for every input the law returns true; each argument reads behind the call as it read before'; 0 by the template 'total and deterministic' (their statements: Qxb6618886aModsTotals.lean).
  GIVEN WITH THE SEED: the statements are not yours to turn. If you find one false, say at which input.
  Laid BY PROGRAM, IN A SANDBOX (cutbox-rows.mjs): the forced cells as the released guide's own fill.sh prints them over the translation 833a8f1b3abc8b20… (all of the seat's roots in one cut). By AI agents, Wed Nov 11 2026. No macro, syntax, notation, axiom, sorry.
-/
import Derived.Test.Qxb6618886aModsChecked
import GoSem.Claim
import GoSem.ClaimJoined
import GoSem.ClaimMapViews
import Derived.JoinedTies
import Derived.KernelRfl
namespace Go.Proofs.Qxb6618886aMods
/- THE CELL 'sum', in the pinned program and in every row, IS THE sha256 OF THE DUMP (.gsa) THAT Qxb6618886aModsProg.lean LOADS. Nothing in Lean hashes anything: it is a label: what it is worth is what the hold of that sum in a sandbox is worth. -/
noncomputable def Trym.pinned : Pinned := { name := "qxb6618886amods", sum := "833a8f1b3abc8b2029a5dfb7c59980d0425981e17d9070f6f4519fe706c16224", checked := Trym.checked }
namespace Rows
def none {H : Type} : Left H := { results := [], args := [] }

/-- 'zzlaws_root_b1.FnInRecordWindowCount': WHATEVER THE INPUT: true; the input reads as it did. -/
def fnInRecordWindowCountSpec : ChangeSpec := { name := "fnInRecordWindowCount", fn := fun _ => fun
  | [d1, d2] => { results := [.lit (.bool true)], args := [d1, d2] }
  | _ => none }
def fnInRecordWindowCountRow : OpenClaim := { program := "qxb6618886amods", sum := "833a8f1b3abc8b2029a5dfb7c59980d0425981e17d9070f6f4519fe706c16224", func := "example.com/deft-seal/deft-seal/zzlaws_root_b1.FnInRecordWindowCount", spec := "fnInRecordWindowCount", make := .lifted ["publicsums"], apart := false }
def FnInRecordWindowCountSaid : Prop := fnInRecordWindowCountRow.holds Trym.pinned (OpenSpec.ofChange fnInRecordWindowCountSpec)

/-- ITS FALSE NEIGHBOUR: 'it returns false'. Refute it at one input. -/
def fnInRecordWindowCountWrong : ChangeSpec := { name := "fnInRecordWindowCount", fn := fun _ => fun
  | [d1, d2] => { results := [.lit (.bool false)], args := [d1, d2] }
  | _ => none }
def FnInRecordWindowCountWrongFalsely : Prop := fnInRecordWindowCountRow.holds Trym.pinned (OpenSpec.ofChange fnInRecordWindowCountWrong)

/-- 'zzlaws_root_b1.FnInRecordEntersOnceLeavesOnce': WHATEVER THE INPUT: true; the input reads as it did. -/
def fnInRecordEntersOnceLeavesOnceSpec : ChangeSpec := { name := "fnInRecordEntersOnceLeavesOnce", fn := fun _ => fun
  | [d1, d2] => { results := [.lit (.bool true)], args := [d1, d2] }
  | _ => none }
def fnInRecordEntersOnceLeavesOnceRow : OpenClaim := { program := "qxb6618886amods", sum := "833a8f1b3abc8b2029a5dfb7c59980d0425981e17d9070f6f4519fe706c16224", func := "example.com/deft-seal/deft-seal/zzlaws_root_b1.FnInRecordEntersOnceLeavesOnce", spec := "fnInRecordEntersOnceLeavesOnce", make := .lifted ["publicsums"], apart := false }
def FnInRecordEntersOnceLeavesOnceSaid : Prop := fnInRecordEntersOnceLeavesOnceRow.holds Trym.pinned (OpenSpec.ofChange fnInRecordEntersOnceLeavesOnceSpec)

/-- ITS FALSE NEIGHBOUR: 'it returns false'. Refute it at one input. -/
def fnInRecordEntersOnceLeavesOnceWrong : ChangeSpec := { name := "fnInRecordEntersOnceLeavesOnce", fn := fun _ => fun
  | [d1, d2] => { results := [.lit (.bool false)], args := [d1, d2] }
  | _ => none }
def FnInRecordEntersOnceLeavesOnceWrongFalsely : Prop := fnInRecordEntersOnceLeavesOnceRow.holds Trym.pinned (OpenSpec.ofChange fnInRecordEntersOnceLeavesOnceWrong)

/-- 'zzlaws_root_b1.FnFieldListAllMatchesSplitModel': WHATEVER THE INPUT: true; the input reads as it did. -/
def fnFieldListAllMatchesSplitModelSpec : ChangeSpec := { name := "fnFieldListAllMatchesSplitModel", fn := fun _ => fun
  | [d1, d2] => { results := [.lit (.bool true)], args := [d1, d2] }
  | _ => none }
def fnFieldListAllMatchesSplitModelRow : OpenClaim := { program := "qxb6618886amods", sum := "833a8f1b3abc8b2029a5dfb7c59980d0425981e17d9070f6f4519fe706c16224", func := "example.com/deft-seal/deft-seal/zzlaws_root_b1.FnFieldListAllMatchesSplitModel", spec := "fnFieldListAllMatchesSplitModel", inPlace := ["internal/bytealg.IndexByteString", "internal/bytealg.IndexString"], unfollowed := true, recurses := true, named := ["internal/bytealg.MaxLen"], make := .lifted ["publicsums"], apart := false }
def FnFieldListAllMatchesSplitModelSaid : Prop := fnFieldListAllMatchesSplitModelRow.holds Trym.pinned (OpenSpec.ofChange fnFieldListAllMatchesSplitModelSpec)

/-- ITS FALSE NEIGHBOUR: 'it returns false'. Refute it at one input. -/
def fnFieldListAllMatchesSplitModelWrong : ChangeSpec := { name := "fnFieldListAllMatchesSplitModel", fn := fun _ => fun
  | [d1, d2] => { results := [.lit (.bool false)], args := [d1, d2] }
  | _ => none }
def FnFieldListAllMatchesSplitModelWrongFalsely : Prop := fnFieldListAllMatchesSplitModelRow.holds Trym.pinned (OpenSpec.ofChange fnFieldListAllMatchesSplitModelWrong)

/-- 'zzlaws_root_b1.FnFieldListAllCutsAtFirstSeparator': WHATEVER THE INPUT: true; the input reads as it did. -/
def fnFieldListAllCutsAtFirstSeparatorSpec : ChangeSpec := { name := "fnFieldListAllCutsAtFirstSeparator", fn := fun _ => fun
  | [d1, d2, d3] => { results := [.lit (.bool true)], args := [d1, d2, d3] }
  | _ => none }
def fnFieldListAllCutsAtFirstSeparatorRow : OpenClaim := { program := "qxb6618886amods", sum := "833a8f1b3abc8b2029a5dfb7c59980d0425981e17d9070f6f4519fe706c16224", func := "example.com/deft-seal/deft-seal/zzlaws_root_b1.FnFieldListAllCutsAtFirstSeparator", spec := "fnFieldListAllCutsAtFirstSeparator", inPlace := ["internal/bytealg.IndexByteString", "internal/bytealg.IndexString"], unfollowed := true, recurses := true, named := ["internal/bytealg.MaxLen"], make := .lifted ["publicsums"], apart := false }
def FnFieldListAllCutsAtFirstSeparatorSaid : Prop := fnFieldListAllCutsAtFirstSeparatorRow.holds Trym.pinned (OpenSpec.ofChange fnFieldListAllCutsAtFirstSeparatorSpec)

/-- ITS FALSE NEIGHBOUR: 'it returns false'. Refute it at one input. -/
def fnFieldListAllCutsAtFirstSeparatorWrong : ChangeSpec := { name := "fnFieldListAllCutsAtFirstSeparator", fn := fun _ => fun
  | [d1, d2, d3] => { results := [.lit (.bool false)], args := [d1, d2, d3] }
  | _ => none }
def FnFieldListAllCutsAtFirstSeparatorWrongFalsely : Prop := fnFieldListAllCutsAtFirstSeparatorRow.holds Trym.pinned (OpenSpec.ofChange fnFieldListAllCutsAtFirstSeparatorWrong)

end Rows
end Go.Proofs.Qxb6618886aMods
