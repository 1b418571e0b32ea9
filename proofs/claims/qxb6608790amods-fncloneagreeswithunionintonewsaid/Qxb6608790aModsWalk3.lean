import Derived.Test.Qxb6608790aModsMain3
import Derived.Test.Qxb6608790aModsCloneZ
namespace Go.Proofs.Qxb6608790aMods
open Go.ChangeShapes Go.WideShapes Go.ChangeAt Go.RowKit Go.Maps

set_option maxRecDepth 100000 in
set_option maxHeartbeats 1600000 in
theorem early3 (a0 a1 : Int) (a2 : Option Addr) (l2 c2 : Nat) (z2 : List Int) (w : World) (w0 : (Lit.int .i64 a0).wf = true) (w1 : (Lit.int .i64 a1).wf = true)
    (hrow : IsRow .u64 w a2 l2 c2 z2) (h2 : l2 ≤ maxLen) (hbad : 65536 < l2 ∨ a1 < 0) :
    Calls Trym.prog 3 #[.int .i64 a0, .int .i64 a1, .slice a2 l2 c2] w fun e w' => e = .returned (.bool true) ∧ Below w.heap.size w w' := by
  have m2 : l2 ≤ 9223372036854775807 := h2
  by_cases g2 : 65536 < l2
  · go_enter Trym.func3, Trym.ntmps3
    go_wp2_with fail
    refine (bytes7 _ _ _ _ _ h2 _).mono ?_
    rintro e w ⟨⟨r, rfl⟩, rfl⟩
    cases r
    all_goals
      go_wp2_with fail
      go_ret
      exact ⟨rfl, Below.refl _ _⟩
  · go_enter Trym.func3, Trym.ntmps3
    go_wp2_with fail
    refine (bytes7 _ _ _ _ _ h2 _).mono ?_
    rintro e w ⟨⟨r, rfl⟩, rfl⟩
    cases r
    · go_wp2_with fail
      go_ret
      exact ⟨rfl, Below.refl _ _⟩
    · go_wp2_with fail
      refine (reach8 _ _ _ _ _ _ _ w0 w1 hrow).mono ?_
      rintro e w ⟨⟨r, rfl, hfit⟩, rfl⟩
      cases r
      · clear hfit
        go_wp2_with fail
        go_ret
        exact ⟨rfl, Below.refl _ _⟩
      · obtain ⟨hf0, hf1, hf2, hf3⟩ := hfit rfl
        omega

set_option maxRecDepth 100000 in
set_option maxHeartbeats 1600000 in
theorem empty3 (a0 a1 : Int) (a2 : Option Addr) (c2 : Nat) (z2 : List Int) (w : World) (w0 : (Lit.int .i64 a0).wf = true) (w1 : (Lit.int .i64 a1).wf = true)
    (hrow : IsRow .u64 w a2 0 c2 z2) :
    Calls Trym.prog 3 #[.int .i64 a0, .int .i64 a1, .slice a2 0 c2] w fun e w' => e = .returned (.bool true) ∧ Below w.heap.size w w' := by
  go_enter Trym.func3, Trym.ntmps3
  go_wp2_with fail
  refine (bytes7 _ _ _ _ _ (by unfold maxLen; omega) _).mono ?_
  rintro e w ⟨⟨r, rfl⟩, rfl⟩
  cases r
  · go_wp2_with fail
    go_ret
    exact ⟨rfl, Below.refl _ _⟩
  · go_wp2_with fail
    refine (reach8 _ _ _ _ _ _ _ w0 w1 hrow).mono ?_
    rintro e w ⟨⟨r, rfl, hfit⟩, rfl⟩
    cases r
    · clear hfit
      go_wp2_with fail
      go_ret
      exact ⟨rfl, Below.refl _ _⟩
    · obtain ⟨hf0, hf1, hf2, hf3⟩ := hfit rfl
      obtain rfl : a1 = 0 := by omega
      have HF : Fits a0 ((0 : Nat) : Int) 0 := ⟨hf0, hf1, by omega, by omega⟩
      clear hf0 hf1 hf2 hf3 hrow w0 w1 hfit
      go_wp2_with fail
      refine (copy9z a2 c2 _).mono ?_
      rintro e v1 ⟨ao, rfl, hbe1⟩
      go_wp2_with fail
      refine (copy9z ao 0 _).mono ?_
      rintro e v2 ⟨ap, rfl, hbe2⟩
      have hbe := hbe1.trans (hbe2.mono hbe1.size)
      clear hbe1 hbe2
      go_wp2_with fail
      refine (new10 _ _ _ _ _ _).mono ?_
      rintro e v3 ⟨rfl, hv3⟩
      have b3 : Below v2.heap.size v2 v3 := by rw [hv3]; exact (Below.refl _ _).alloc (Nat.le_refl _) _
      have s2 := hbe.size
      have s3 : v3.heap.size = v2.heap.size + 1 := by rw [hv3]; simp
      have hh3 : v3.heap[v2.heap.size]? = some (.cells #[.int .i64 a0, .int .i64 0, .slice ao 0 0] 46 (0, 0)) := by rw [hv3]; exact heap_alloc_new _ _
      have e0 : v3.cell? ⟨v2.heap.size, 0, none⟩ = some (.int .i64 a0) := by rw [hv3]; simp
      have e1 : v3.cell? ⟨v2.heap.size, 1, none⟩ = some (.int .i64 0) := by rw [hv3]; simp
      have e2 : v3.cell? ⟨v2.heap.size, 2, none⟩ = some (.slice ao 0 0) := by rw [hv3]; simp
      have hbe := hbe.trans (b3.mono (by omega))
      clear hv3 b3
      generalize v2.heap.size = be at *
      go_wp2_with fail
      refine (clone11z be 0 ao a0 0 _ e0 e1 e2).mono ?_
      rintro e v4 ⟨bc, aq, cap, rfl, k1, k2, c0, c1, c2', b4, cc, hh4⟩
      have hpe := ptrOther v4 (a := bc) (b := be) (by omega) hh4 ((b4.block be (by omega)).trans hh3)
      have e0 := (b4.cell (by simp; omega)).trans e0
      have e1 := (b4.cell (by simp; omega)).trans e1
      have e2 := (b4.cell (by simp; omega)).trans e2
      have hbe := hbe.trans (b4.mono (by omega))
      have s4 := b4.size
      clear b4 hh3 hh4
      go_wp2_with fail
      refine (new12 a0 0 0 _ (by omega) HF).mono ?_
      rintro e v5 ⟨bx, gx, rfl, m1, m2, m3, m4, x0, x1, x2, ax, b5⟩
      have e0 := (b5.cell (by simp; omega)).trans e0
      have e1 := (b5.cell (by simp; omega)).trans e1
      have e2 := (b5.cell (by simp; omega)).trans e2
      have c0 := (b5.cell (by simp; omega)).trans c0
      have c1 := (b5.cell (by simp; omega)).trans c1
      have c2' := (b5.cell (by simp; omega)).trans c2'
      have hbe := hbe.trans (b5.mono (by omega))
      clear b5 hpe HF ax
      go_wp2_with fail
      refine (union13z bx be _ _ _ x2).mono ?_
      rintro e v5 ⟨rfl, rfl⟩
      have q0 : (a0 != a0) = false := by simp
      have p0 : (a0 == a0) = true := by simp
      go_wp2_with fail
      refine (size14 _ _ _ c0).mono ?_
      rintro e v5 ⟨rfl, rfl⟩
      go_wp2_with fail
      refine (n15 _ _ _ c1).mono ?_
      rintro e v5 ⟨rfl, rfl⟩
      go_wp2_with fail
      refine (size14 _ _ _ x0).mono ?_
      rintro e v5 ⟨rfl, rfl⟩
      go_wp2_with fail
      refine (n15 _ _ _ x1).mono ?_
      rintro e v5 ⟨rfl, rfl⟩
      go_wp2_with fail
      refine (words16 _ _ _ _ _ c2').mono ?_
      rintro e v5 ⟨rfl, rfl⟩
      go_wp2_with fail
      refine (same17z _ _ _ _ _).mono ?_
      rintro e v5 ⟨rfl, rfl⟩
      go_wp2_with fail
      refine (words16 _ _ _ _ _ x2).mono ?_
      rintro e v5 ⟨rfl, rfl⟩
      go_wp2_with fail
      refine (same17z _ _ _ _ _).mono ?_
      rintro e v5 ⟨rfl, rfl⟩
      go_wp2_with fail
      refine wp_loop_rounds 1 ?_
      rw [rounds_succ]
      go_wp2_with fail
      refine (words16 _ _ _ _ _ e2).mono ?_
      rintro e v5 ⟨rfl, rfl⟩
      go_wp2_with fail
      refine (same17z _ _ _ _ _).mono ?_
      rintro e v5 ⟨rfl, rfl⟩
      go_wp2_with fail
      refine (words16 _ _ _ _ _ x2).mono ?_
      rintro e v5 ⟨rfl, rfl⟩
      go_wp2_with fail
      refine (same17z _ _ _ _ _).mono ?_
      rintro e v5 ⟨rfl, rfl⟩
      go_wp2_with fail
      refine (size14 _ _ _ e0).mono ?_
      rintro e v5 ⟨rfl, rfl⟩
      go_wp2_with fail
      refine (n15 _ _ _ e1).mono ?_
      rintro e v5 ⟨rfl, rfl⟩
      go_wp2_with fail
      go_ret
      exact ⟨rfl, hbe⟩

theorem walk3 (a0 a1 : Int) (a2 : Option Addr) (l2 c2 : Nat) (z2 : List Int) (w : World) (w0 : (Lit.int .i64 a0).wf = true) (w1 : (Lit.int .i64 a1).wf = true)
    (h2 : IsRow .u64 w a2 l2 c2 z2) :
    Calls Trym.prog 3 #[.int .i64 a0, .int .i64 a1, .slice a2 l2 c2] w fun e w' => e = .returned (.bool true) ∧ Below w.heap.size w w' := by
  have m2 : l2 ≤ maxLen := by
    rcases h2 with ⟨_, rfl, _, _⟩ | ⟨x, _, hl, hm, _⟩
    · exact Nat.zero_le _
    · exact Nat.le_trans hl hm
  by_cases hbad : 65536 < l2 ∨ a1 < 0
  · exact early3 a0 a1 a2 l2 c2 z2 w w0 w1 h2 m2 hbad
  · by_cases hz : l2 = 0
    · subst hz
      exact empty3 a0 a1 a2 c2 z2 w w0 w1 h2
    · have h2' := h2
      rcases h2 with ⟨_, h, _, _⟩ | ⟨x, rfl, hl, hm, hzl, hcell, hwz⟩
      · exact absurd h hz
      · obtain ⟨n, rfl⟩ := Int.eq_ofNat_of_zero_le (show 0 ≤ a1 by omega)
        refine main3 a0 n x l2 c2 (fun i => z2.getD i 0) z2 w w0 w1 h2' (by omega) (by omega) (fun i hi => hcell i (by omega)) (fun i hi => ?_)
        have := hwz (z2.getD i 0) (by
          have h : i < z2.length := by omega
          simp [h])
        exact bounds_u64 this

end Go.Proofs.Qxb6608790aMods
