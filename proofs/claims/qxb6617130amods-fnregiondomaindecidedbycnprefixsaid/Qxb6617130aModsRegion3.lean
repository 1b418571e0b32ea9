import Derived.Test.Qxb6617130aModsRegion
namespace Go.Proofs.Qxb6617130aMods
open Go.ChangeShapes Go.WideShapes Go.ChangeAt Go.RowKit

theorem dom_true {s : ByteArray} (h : cn s = true) : dom s = china := by unfold dom; rw [h]; rfl
theorem dom_false {s : ByteArray} (h : cn s = false) : dom s = global := by unfold dom; rw [h]; rfl
theorem cc : (china.toList == china.toList) = true := by simp
theorem gg : (global.toList == global.toList) = true := by simp
theorem gc : (global.toList == china.toList) = false := by decide +kernel
theorem cg : (china.toList == global.toList) = false := by decide +kernel
theorem china_list : (china.toList == [46, 97, 109, 97, 122, 111, 110, 97, 119, 115, 46, 99, 111, 109, 46, 99, 110]) = true := by decide +kernel
theorem global_list : (global.toList == [46, 97, 109, 97, 122, 111, 110, 97, 119, 115, 46, 99, 111, 109]) = true := by decide +kernel
theorem app_size (a b : ByteArray) : (a ++ b).size = a.size + b.size := by simp

set_option maxRecDepth 100000 in
set_option maxHeartbeats 1600000 in
theorem region3 (a0 a1 : ByteArray) (w0 : a0.size ≤ maxLen) (w1 : a1.size ≤ maxLen) (w : World) :
    Calls Trym.prog 3 #[.string a0, .string a1] w fun e w' => e = .returned (.bool true) ∧ Below w.heap.size w w' := by
  have w0' : a0.size ≤ 9223372036854775807 := w0
  have w1' : a1.size ≤ 9223372036854775807 := w1
  go_enter Trym.func3, Trym.ntmps3
  go_wp2_with fail
  refine (bytes6 a0 a1 w0 w1 _).mono ?_
  rintro e w ⟨⟨r, rfl⟩, rfl⟩
  cases r
  · go_wp2_with fail
    go_ret
    exact ⟨rfl, Below.refl _ _⟩
  · by_cases h0 : 4096 < a0.size
    · go_wp2_with fail
      go_ret
      exact ⟨rfl, Below.refl _ _⟩
    by_cases h1 : 4096 < a1.size
    · go_wp2_with fail
      go_ret
      exact ⟨rfl, Below.refl _ _⟩
    have DZ : Hid (dom (cnp ++ a0) = china) := dom_true (cn_cnp a0)
    have S1 := app_size a0 a1
    have S2 := app_size cnp a0
    have S3 := cnp_size
    have q1 := cc
    have q2 := gg
    have q3 := gc
    have q4 := cg
    have q5 := china_list
    have q6 := global_list
    cases hx : cn a0 <;> cases hy : cn (a0 ++ a1)
    · have DX : Hid (dom a0 = global) := dom_false hx
      have DY : Hid (dom (a0 ++ a1) = global) := dom_false hy
      have HX : Hid (cn a0 = false) := hx
      have HY : Hid (cn (a0 ++ a1) = false) := hy
      clear hx hy
      go_wp2_with fail
      refine (dom7 a0 _ (by omega)).mono ?_
      rw [DX.out]
      rintro e w ⟨rfl, rfl⟩
      go_wp2_with fail
      refine (dom7 (a0 ++ a1) _ (by omega)).mono ?_
      rw [DY.out]
      rintro e w ⟨rfl, rfl⟩
      go_wp2_with fail
      refine (dom7 (cnp ++ a0) _ (by omega)).mono ?_
      rw [DZ.out]
      rintro e w ⟨rfl, rfl⟩
      go_wp2_with fail
      refine (has8 a0 _ (by omega)).mono ?_
      rw [HX.out]
      rintro e w ⟨rfl, rfl⟩
      go_wp2_with fail
      refine (has8 (a0 ++ a1) _ (by omega)).mono ?_
      rw [HY.out]
      rintro e w ⟨rfl, rfl⟩
      go_wp2_with fail
      all_goals
        go_ret
        exact ⟨rfl, Below.refl _ _⟩
    · have DX : Hid (dom a0 = global) := dom_false hx
      have DY : Hid (dom (a0 ++ a1) = china) := dom_true hy
      have HX : Hid (cn a0 = false) := hx
      have HY : Hid (cn (a0 ++ a1) = true) := hy
      have hsz : a0.size < 3 := by
        by_cases h : 3 ≤ a0.size
        · have := cn_app a0 a1 h
          rw [hx, hy] at this
          cases this
        · omega
      clear hx hy
      go_wp2_with fail
      refine (dom7 a0 _ (by omega)).mono ?_
      rw [DX.out]
      rintro e w ⟨rfl, rfl⟩
      go_wp2_with fail
      refine (dom7 (a0 ++ a1) _ (by omega)).mono ?_
      rw [DY.out]
      rintro e w ⟨rfl, rfl⟩
      go_wp2_with fail
      refine (dom7 (cnp ++ a0) _ (by omega)).mono ?_
      rw [DZ.out]
      rintro e w ⟨rfl, rfl⟩
      go_wp2_with fail
      refine (has8 a0 _ (by omega)).mono ?_
      rw [HX.out]
      rintro e w ⟨rfl, rfl⟩
      go_wp2_with fail
      refine (has8 (a0 ++ a1) _ (by omega)).mono ?_
      rw [HY.out]
      rintro e w ⟨rfl, rfl⟩
      go_wp2_with fail
      all_goals
        go_ret
        exact ⟨rfl, Below.refl _ _⟩
    · have DX : Hid (dom a0 = china) := dom_true hx
      have DY : Hid (dom (a0 ++ a1) = global) := dom_false hy
      have HX : Hid (cn a0 = true) := hx
      have HY : Hid (cn (a0 ++ a1) = false) := hy
      have hsz : a0.size < 3 := by
        by_cases h : 3 ≤ a0.size
        · have := cn_app a0 a1 h
          rw [hx, hy] at this
          cases this
        · omega
      clear hx hy
      go_wp2_with fail
      refine (dom7 a0 _ (by omega)).mono ?_
      rw [DX.out]
      rintro e w ⟨rfl, rfl⟩
      go_wp2_with fail
      refine (dom7 (a0 ++ a1) _ (by omega)).mono ?_
      rw [DY.out]
      rintro e w ⟨rfl, rfl⟩
      go_wp2_with fail
      refine (dom7 (cnp ++ a0) _ (by omega)).mono ?_
      rw [DZ.out]
      rintro e w ⟨rfl, rfl⟩
      go_wp2_with fail
      refine (has8 a0 _ (by omega)).mono ?_
      rw [HX.out]
      rintro e w ⟨rfl, rfl⟩
      go_wp2_with fail
      refine (has8 (a0 ++ a1) _ (by omega)).mono ?_
      rw [HY.out]
      rintro e w ⟨rfl, rfl⟩
      go_wp2_with fail
      all_goals
        go_ret
        exact ⟨rfl, Below.refl _ _⟩
    · have DX : Hid (dom a0 = china) := dom_true hx
      have DY : Hid (dom (a0 ++ a1) = china) := dom_true hy
      have HX : Hid (cn a0 = true) := hx
      have HY : Hid (cn (a0 ++ a1) = true) := hy
      clear hx hy
      go_wp2_with fail
      refine (dom7 a0 _ (by omega)).mono ?_
      rw [DX.out]
      rintro e w ⟨rfl, rfl⟩
      go_wp2_with fail
      refine (dom7 (a0 ++ a1) _ (by omega)).mono ?_
      rw [DY.out]
      rintro e w ⟨rfl, rfl⟩
      go_wp2_with fail
      refine (dom7 (cnp ++ a0) _ (by omega)).mono ?_
      rw [DZ.out]
      rintro e w ⟨rfl, rfl⟩
      go_wp2_with fail
      refine (has8 a0 _ (by omega)).mono ?_
      rw [HX.out]
      rintro e w ⟨rfl, rfl⟩
      go_wp2_with fail
      refine (has8 (a0 ++ a1) _ (by omega)).mono ?_
      rw [HY.out]
      rintro e w ⟨rfl, rfl⟩
      go_wp2_with fail
      all_goals
        go_ret
        exact ⟨rfl, Below.refl _ _⟩

end Go.Proofs.Qxb6617130aMods
