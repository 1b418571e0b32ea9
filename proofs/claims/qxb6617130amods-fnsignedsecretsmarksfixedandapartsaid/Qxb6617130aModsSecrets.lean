import Derived.Test.Qxb6617130aModsRows
import Derived.WalkKit
import Derived.ProofKit
import Derived.OpenShut
import Derived.ShutString
import Derived.Below
import Derived.WalkSpells
import Derived.WalkLawsBesides
import Derived.Deep.QuietTactic
import Derived.BigQuiet
import Derived.Deep.Light
import Derived.RegionTactic
import Derived.BigRegion
namespace Go.Proofs.Qxb6617130aMods
open Go.ChangeShapes Go.WideShapes Go.ChangeAt Go.RowKit

/-! ### the three marks -/
def mk0 : ByteArray := ⟨#[91, 115, 101, 115, 115, 105, 111, 110, 32, 116, 111, 107, 101, 110, 93]⟩
def mk1 : ByteArray := ⟨#[91, 97, 99, 99, 101, 115, 115, 32, 107, 101, 121, 32, 73, 68, 93]⟩
def mk2 : ByteArray := ⟨#[91, 115, 105, 103, 110, 97, 116, 117, 114, 101, 93]⟩

structure Secrets (v : World) (b : Nat) (id tok sig : ByteArray) : Prop where
  c0 : v.cell? ⟨b, 0, none⟩ = some (.string tok)
  c1 : v.cell? ⟨b, 1, none⟩ = some (.string mk0)
  c2 : v.cell? ⟨b, 2, none⟩ = some (.string id)
  c3 : v.cell? ⟨b, 3, none⟩ = some (.string mk1)
  c4 : v.cell? ⟨b, 4, none⟩ = some (.string sig)
  c5 : v.cell? ⟨b, 5, none⟩ = some (.string mk2)
theorem Secrets.below {v v' : World} {b B : Nat} {id tok sig : ByteArray} (h : Secrets v b id tok sig) (hb : Below B v v') (hB : b < B) : Secrets v' b id tok sig :=
  ⟨(hb.cell (by exact hB)).trans h.c0, (hb.cell (by exact hB)).trans h.c1, (hb.cell (by exact hB)).trans h.c2, (hb.cell (by exact hB)).trans h.c3, (hb.cell (by exact hB)).trans h.c4, (hb.cell (by exact hB)).trans h.c5⟩

def Signed (w : World) (id tok sig : ByteArray) (e : Ending) (w' : World) : Prop :=
  ∃ b, e = .returned (.slice (some ⟨b, 0, none⟩) 3 3) ∧ w.heap.size ≤ b ∧ b < w'.heap.size ∧ Secrets w' b id tok sig ∧ Below w.heap.size w w'

set_option maxRecDepth 100000 in
set_option maxHeartbeats 800000 in
theorem signed14 (bk : Nat) (id tok sig : ByteArray) (w : World) (k0 : w.cell? ⟨bk, 0, none⟩ = some (.string id)) (k2 : w.cell? ⟨bk, 2, none⟩ = some (.string tok)) :
    Calls Trym.prog 14 #[.pointer (some ⟨bk, 0, none⟩), .string sig] w fun e w' => Signed w id tok sig e w' := by
  go_enter Trym.func14, Trym.ntmps14
  go_wp2
  go_region
  go_wp2
  go_ret
  exact ⟨w.heap.size, rfl, Nat.le_refl _, by simp, ⟨by simp, by simp; rfl, by simp, by simp; rfl, by simp, by simp; rfl⟩, ((Below.refl _ _).alloc (Nat.le_refl _) _).drew⟩

set_option maxHeartbeats 400000 in
theorem signed10 (bk : Nat) (id tok sig : ByteArray) (w : World) (k0 : w.cell? ⟨bk, 0, none⟩ = some (.string id)) (k2 : w.cell? ⟨bk, 2, none⟩ = some (.string tok)) :
    Calls Trym.prog 10 #[.pointer (some ⟨bk, 0, none⟩), .string sig] w fun e w' => Signed w id tok sig e w' := by
  go_enter Trym.func10, Trym.ntmps10
  go_wp2_with fail
  refine (signed14 bk id tok sig _ k0 k2).mono ?_
  rintro e w' ⟨b, rfl, h1, h2, h3, h4⟩
  go_wp2_with fail
  go_ret
  exact ⟨b, rfl, h1, h2, h3, h4⟩

theorem ret_bool {a b : Bool} (h : a = b) : Ending.returned (.bool a) = .returned (.bool b) := by rw [h]

set_option maxRecDepth 100000 in
set_option maxHeartbeats 400000 in
theorem brack12 (m : ByteArray) (w : World) (h0 : 3 ≤ m.size) (h1 : m.size ≤ 1000) (hp : 0 < m.size) (hq : m.size - 1 < m.size) (h2 : ((m[0]'hp).toNat : Int) = 91) (h3 : ((m[m.size - 1]'hq).toNat : Int) = 93) :
    Calls Trym.prog 12 #[.string m] w fun e w' => e = .returned (.bool true) ∧ w' = w := by
  go_enter Trym.func12, Trym.ntmps12
  go_wp2
  go_ret
  exact ⟨rfl, rfl⟩
theorem brack0 (w : World) : Calls Trym.prog 12 #[.string mk0] w fun e w' => e = .returned (.bool true) ∧ w' = w :=
  brack12 mk0 w (by decide +kernel) (by decide +kernel) (by decide +kernel) (by decide +kernel) (by decide +kernel) (by decide +kernel)
theorem brack1 (w : World) : Calls Trym.prog 12 #[.string mk1] w fun e w' => e = .returned (.bool true) ∧ w' = w :=
  brack12 mk1 w (by decide +kernel) (by decide +kernel) (by decide +kernel) (by decide +kernel) (by decide +kernel) (by decide +kernel)
theorem brack2 (w : World) : Calls Trym.prog 12 #[.string mk2] w fun e w' => e = .returned (.bool true) ∧ w' = w :=
  brack12 mk2 w (by decide +kernel) (by decide +kernel) (by decide +kernel) (by decide +kernel) (by decide +kernel) (by decide +kernel)
theorem mk01 : (mk0.toList == mk1.toList) = false := by decide +kernel
theorem mk02 : (mk0.toList == mk2.toList) = false := by decide +kernel
theorem mk12 : (mk1.toList == mk2.toList) = false := by decide +kernel

set_option maxRecDepth 100000 in
set_option maxHeartbeats 800000 in
theorem bytes11 (a0 a1 a2 a3 a4 a5 a6 a7 : ByteArray) (w0 : a0.size ≤ maxLen) (w1 : a1.size ≤ maxLen) (w2 : a2.size ≤ maxLen) (w3 : a3.size ≤ maxLen) (w4 : a4.size ≤ maxLen) (w5 : a5.size ≤ maxLen) (w6 : a6.size ≤ maxLen) (w7 : a7.size ≤ maxLen) (w : World) :
    Calls Trym.prog 11 #[.string a0, .string a1, .string a2, .string a3, .string a4, .string a5, .string a6, .string a7] w fun e w' => (∃ r, e = .returned (.bool r)) ∧ w' = w := by
  unfold maxLen at *
  go_enter Trym.func11, Trym.ntmps11
  go_wp2
  all_goals
    go_ret
    exact ⟨⟨_, rfl⟩, rfl⟩

end Go.Proofs.Qxb6617130aMods
