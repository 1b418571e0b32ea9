import Derived.Test.Qxb6617130aModsRows
import Derived.WalkKit
import Derived.ProofKit
import Derived.OpenShut
import Derived.ShutString
import Derived.Below
import Derived.WalkSpells
import Derived.WalkLawsBesides
import Derived.Deep.Light
import Derived.Lib.Strings
namespace Go.Proofs.Qxb6617130aMods
open Go.ChangeShapes Go.WideShapes Go.ChangeAt Go.RowKit

theorem ret_bool' {a b : Bool} (h : a = b) : Ending.returned (.bool a) = .returned (.bool b) := by rw [h]

def cnp : ByteArray := ⟨#[99, 110, 45]⟩
def china : ByteArray := ⟨#[46, 97, 109, 97, 122, 111, 110, 97, 119, 115, 46, 99, 111, 109, 46, 99, 110]⟩
def global : ByteArray := ⟨#[46, 97, 109, 97, 122, 111, 110, 97, 119, 115, 46, 99, 111, 109]⟩

/-- does s begin with the three bytes? -/
def cn (s : ByteArray) : Bool := s.data.toList.take 3 == [99, 110, 45]
def dom (s : ByteArray) : ByteArray := if cn s then china else global

theorem cnp_list : cnp.toList = [99, 110, 45] := by decide +kernel
theorem cnp_size : cnp.size = 3 := rfl
theorem cn_short (s : ByteArray) (h : s.size < 3) : cn s = false := by
  unfold cn
  rw [beq_eq_false_iff_ne]
  intro e
  have := congrArg List.length e
  have hl := Lib.size_eq s
  simp at this
  omega
theorem cn_cut (s : ByteArray) : ((s.extract 0 3).toList == cnp.toList) = cn s := by
  rw [Lib.extract_toList, cnp_list]; rfl
theorem take3 (s : ByteArray) (h : 3 ≤ s.size) : s.data.toList.take 3 = [s[0]'(by omega), s[1]'(by omega), s[2]'(by omega)] := by
  have hl := Lib.size_eq s
  apply List.ext_getElem
  · simp; omega
  · intro i h1 h2
    have hi : i < 3 := by simpa using h2
    rcases (show i = 0 ∨ i = 1 ∨ i = 2 by omega) with rfl | rfl | rfl <;> simp [ByteArray.getElem_eq_getElem_data]
theorem cn_index (s : ByteArray) (h : 3 ≤ s.size) : cn s = true ↔ ((s[0]'(by omega)).toNat : Int) = 99 ∧ ((s[1]'(by omega)).toNat : Int) = 110 ∧ ((s[2]'(by omega)).toNat : Int) = 45 := by
  unfold cn
  rw [take3 s h, beq_iff_eq]
  simp only [List.cons.injEq, and_true]
  constructor
  · rintro ⟨h1, h2, h3⟩
    rw [h1, h2, h3]; exact ⟨rfl, rfl, rfl⟩
  · rintro ⟨h1, h2, h3⟩
    refine ⟨?_, ?_, ?_⟩ <;> apply UInt8.toNat_inj.1 <;> simp <;> omega
theorem data_append (a b : ByteArray) : (a ++ b).data.toList = a.data.toList ++ b.data.toList := by simp
theorem cn_app (a b : ByteArray) (h : 3 ≤ a.size) : cn (a ++ b) = cn a := by
  unfold cn
  have hl := Lib.size_eq a
  rw [data_append, List.take_append_of_le_length (by omega)]
theorem cn_cnp (b : ByteArray) : cn (cnp ++ b) = true := by
  rw [cn_app _ _ (by decide +kernel)]; decide +kernel

set_option maxRecDepth 100000 in
set_option maxHeartbeats 400000 in
theorem pre16 (s : ByteArray) (w : World) (h : s.size ≤ 100000) :
    Calls Trym.prog 16 #[.string s, .string cnp] w fun e w' => e = .returned (.bool (cn s)) ∧ w' = w := by
  obtain ⟨b, hb⟩ : ∃ b, cn s = b := ⟨_, rfl⟩
  have HB : Hid (cn s = b) := hb
  rw [hb]
  clear hb
  have h3 := cnp_size
  by_cases hs : 3 ≤ s.size
  · go_enter Trym.func16, Trym.ntmps16
    go_wp2
    go_ret
    exact ⟨ret_bool' (by rw [cn_cut, HB.out]), rfl⟩
  · go_enter Trym.func16, Trym.ntmps16
    go_wp2
    go_ret
    exact ⟨ret_bool' (by rw [← HB.out, cn_short s (by omega)]), rfl⟩

set_option maxHeartbeats 400000 in
theorem pre15 (s : ByteArray) (w : World) (h : s.size ≤ 100000) :
    Calls Trym.prog 15 #[.string s, .string cnp] w fun e w' => e = .returned (.bool (cn s)) ∧ w' = w := by
  go_enter Trym.func15, Trym.ntmps15
  go_wp2_with fail
  refine (pre16 s _ h).mono ?_
  rintro e w ⟨rfl, rfl⟩
  go_wp2_with fail
  go_ret
  exact ⟨rfl, rfl⟩

set_option maxHeartbeats 400000 in
theorem dom13 (s : ByteArray) (w : World) (h : s.size ≤ 100000) :
    Calls Trym.prog 13 #[.string s] w fun e w' => e = .returned (.string (dom s)) ∧ w' = w := by
  obtain ⟨b, hb⟩ : ∃ b, cn s = b := ⟨_, rfl⟩
  have HB : Hid (cn s = b) := hb
  have HD : Hid (dom s = if b then china else global) := by show _ = _; unfold dom; rw [hb]
  rw [HD.out]
  go_enter Trym.func13, Trym.ntmps13
  go_wp2_with fail
  refine (pre15 s _ h).mono ?_
  rw [hb]
  clear hb
  rintro e w ⟨rfl, rfl⟩
  cases b
  · go_wp2_with fail
    go_ret
    exact ⟨rfl, rfl⟩
  · go_wp2_with fail
    go_ret
    exact ⟨rfl, rfl⟩

set_option maxHeartbeats 400000 in
theorem dom7 (s : ByteArray) (w : World) (h : s.size ≤ 100000) :
    Calls Trym.prog 7 #[.string s] w fun e w' => e = .returned (.string (dom s)) ∧ w' = w := by
  go_enter Trym.func7, Trym.ntmps7
  go_wp2_with fail
  refine (dom13 s _ h).mono ?_
  rintro e w ⟨rfl, rfl⟩
  go_wp2_with fail
  go_ret
  exact ⟨rfl, rfl⟩

set_option maxRecDepth 100000 in
set_option maxHeartbeats 400000 in
theorem has8 (s : ByteArray) (w : World) (h : s.size ≤ 100000) :
    Calls Trym.prog 8 #[.string s] w fun e w' => e = .returned (.bool (cn s)) ∧ w' = w := by
  obtain ⟨b, hb⟩ : ∃ b, cn s = b := ⟨_, rfl⟩
  have HB : Hid (cn s = b) := hb
  rw [hb]
  clear hb
  by_cases hs : 3 ≤ s.size
  · have HI : Hid (b = true ↔ ((s[0]'(by omega)).toNat : Int) = 99 ∧ ((s[1]'(by omega)).toNat : Int) = 110 ∧ ((s[2]'(by omega)).toNat : Int) = 45) := by
      rw [← HB.out]; exact cn_index s hs
    go_enter Trym.func8, Trym.ntmps8
    go_wp2
    · go_ret
      refine ⟨ret_bool' ?_, rfl⟩
      rw [Bool.eq_iff_iff, HI.out, beq_iff_eq]
      exact ⟨fun h => ⟨by assumption, by assumption, h⟩, fun h => h.2.2⟩
    · go_ret
      refine ⟨ret_bool' ?_, rfl⟩
      rw [Bool.eq_iff_iff, HI.out]
      exact ⟨fun h => by simp at h, fun h => absurd h.2.1 (by assumption)⟩
    · go_ret
      refine ⟨ret_bool' ?_, rfl⟩
      rw [Bool.eq_iff_iff, HI.out]
      exact ⟨fun h => by simp at h, fun h => absurd h.1 (by assumption)⟩
  · go_enter Trym.func8, Trym.ntmps8
    go_wp2
    go_ret
    exact ⟨ret_bool' (by rw [← HB.out, cn_short s (by omega)]), rfl⟩

set_option maxHeartbeats 400000 in
theorem bytes6 (a0 a1 : ByteArray) (w0 : a0.size ≤ maxLen) (w1 : a1.size ≤ maxLen) (w : World) :
    Calls Trym.prog 6 #[.string a0, .string a1] w fun e w' => (∃ r, e = .returned (.bool r)) ∧ w' = w := by
  unfold maxLen at *
  go_enter Trym.func6, Trym.ntmps6
  go_wp2
  all_goals
    go_ret
    exact ⟨⟨_, rfl⟩, rfl⟩

end Go.Proofs.Qxb6617130aMods
