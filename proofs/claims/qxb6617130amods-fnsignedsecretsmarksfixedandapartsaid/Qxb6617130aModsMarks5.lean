import Derived.Test.Qxb6617130aModsSecrets
namespace Go.Proofs.Qxb6617130aMods
open Go.ChangeShapes Go.WideShapes Go.ChangeAt Go.RowKit

set_option maxRecDepth 100000 in
set_option maxHeartbeats 1600000 in
theorem marks5 (a0 a1 a2 a3 a4 a5 a6 a7 : ByteArray) (w0 : a0.size ≤ maxLen) (w1 : a1.size ≤ maxLen) (w2 : a2.size ≤ maxLen) (w3 : a3.size ≤ maxLen) (w4 : a4.size ≤ maxLen) (w5 : a5.size ≤ maxLen) (w6 : a6.size ≤ maxLen) (w7 : a7.size ≤ maxLen) (w : World) :
    Calls Trym.prog 5 #[.string a0, .string a1, .string a2, .string a3, .string a4, .string a5, .string a6, .string a7] w fun e w' => e = .returned (.bool true) ∧ Below w.heap.size w w' := by
  go_enter Trym.func5, Trym.ntmps5
  go_wp2_with fail
  refine (bytes11 a0 a1 a2 a3 a4 a5 a6 a7 w0 w1 w2 w3 w4 w5 w6 w7 _).mono ?_
  rintro e w ⟨⟨r, rfl⟩, rfl⟩
  cases r
  · go_wp2_with fail
    go_ret
    exact ⟨rfl, Below.refl _ _⟩
  · unfold maxLen at *
    go_wp2_with fail
    all_goals first | (go_ret; exact ⟨rfl, Below.refl _ _⟩) | skip
    refine (signed10 w.heap.size a0 a2 a3 _ (by simp) (by simp)).mono ?_
    rintro e v1 ⟨b1, rfl, h1, h2, S1, B1⟩
    have hb1 : Below w.heap.size w v1 := ((Below.refl _ _).alloc (Nat.le_refl _) _).trans (B1.mono (by simp))
    clear B1
    go_wp2_with fail
    refine (signed10 v1.heap.size a4 a6 a7 _ (by simp) (by simp)).mono ?_
    rintro e v2 ⟨b2, rfl, h3, h4, S2, B2⟩
    have hb2 : Below v1.heap.size v1 v2 := ((Below.refl _ _).alloc (Nat.le_refl _) _).trans (B2.mono (by simp))
    have S1 := S1.below hb2 h2
    have hbe := hb1.trans (hb2.mono hb1.size)
    clear B2 hb1 hb2 h1 h2 h3 h4
    have t0 : (a0.toList == a0.toList) = true := by simp
    have t2 : (a2.toList == a2.toList) = true := by simp
    have t3 : (a3.toList == a3.toList) = true := by simp
    have t4 : (a4.toList == a4.toList) = true := by simp
    have t6 : (a6.toList == a6.toList) = true := by simp
    have t7 : (a7.toList == a7.toList) = true := by simp
    have x0 := S1.c0
    have x2 := S1.c2
    have x4 := S1.c4
    have y0 := S2.c0
    have y2 := S2.c2
    have y4 := S2.c4
    go_wp2_with fail
    clear x0 x2 x4 y0 y2 y4 t0 t2 t3 t4 t6 t7
    go_loopw [19] (fun i wr => ∃ k : Nat, k ≤ 3 ∧ i = .int .i64 k ∧ Secrets wr b1 a0 a2 a3 ∧ Secrets wr b2 a4 a6 a7 ∧ Below w.heap.size w wr) (fun i _ => 3 - (intOf i).toNat)
    case atStart => exact ⟨0, by omega, rfl, S1, S2, hbe⟩
    case round =>
      obtain ⟨k, hk, rfl, T1, T2, hbr⟩ := hrel
      clear S1 S2 hbe
      by_cases hlt : k < 3
      · rcases (show k = 0 ∨ k = 1 ∨ k = 2 by omega) with rfl | rfl | rfl
        · have p1 := T1.c1
          have p2 := T2.c1
          have e1 : (mk0.toList == mk0.toList) = true := by simp
          go_wp2_with fail
          go_quiet (fail)
          go_wp2_with fail
          refine (brack0 _).mono ?_
          rintro e w' ⟨rfl, hw'⟩
          have TT : Secrets w' b1 a0 a2 a3 ∧ Secrets w' b2 a4 a6 a7 ∧ Below w.heap.size w w' := by
            rw [hw']
            exact ⟨⟨T1.c0, T1.c1, T1.c2, T1.c3, T1.c4, T1.c5⟩, ⟨T2.c0, T2.c1, T2.c2, T2.c3, T2.c4, T2.c5⟩, ⟨hbr.os, hbr.tape, hbr.output, hbr.size, hbr.block⟩⟩
          clear hw'
          go_wp2_with fail
          go_roundw
          case rel => exact ⟨0 + 1, by omega, by go_num, TT⟩
          case measure => simp [intOf]
        · have p1 := T1.c3
          have p2 := T2.c3
          have e1 : (mk1.toList == mk1.toList) = true := by simp
          go_wp2_with fail
          go_quiet (fail)
          go_wp2_with fail
          refine (brack1 _).mono ?_
          rintro e w' ⟨rfl, hw'⟩
          have TT : Secrets w' b1 a0 a2 a3 ∧ Secrets w' b2 a4 a6 a7 ∧ Below w.heap.size w w' := by
            rw [hw']
            exact ⟨⟨T1.c0, T1.c1, T1.c2, T1.c3, T1.c4, T1.c5⟩, ⟨T2.c0, T2.c1, T2.c2, T2.c3, T2.c4, T2.c5⟩, ⟨hbr.os, hbr.tape, hbr.output, hbr.size, hbr.block⟩⟩
          clear hw'
          go_wp2_with fail
          go_roundw
          case rel => exact ⟨1 + 1, by omega, by go_num, TT⟩
          case measure => simp [intOf]
        · have p1 := T1.c5
          have p2 := T2.c5
          have e1 : (mk2.toList == mk2.toList) = true := by simp
          go_wp2_with fail
          go_quiet (fail)
          go_wp2_with fail
          refine (brack2 _).mono ?_
          rintro e w' ⟨rfl, hw'⟩
          have TT : Secrets w' b1 a0 a2 a3 ∧ Secrets w' b2 a4 a6 a7 ∧ Below w.heap.size w w' := by
            rw [hw']
            exact ⟨⟨T1.c0, T1.c1, T1.c2, T1.c3, T1.c4, T1.c5⟩, ⟨T2.c0, T2.c1, T2.c2, T2.c3, T2.c4, T2.c5⟩, ⟨hbr.os, hbr.tape, hbr.output, hbr.size, hbr.block⟩⟩
          clear hw'
          go_wp2_with fail
          go_roundw
          case rel => exact ⟨2 + 1, by omega, by go_num, TT⟩
          case measure => simp [intOf]
      · obtain rfl : k = 3 := by omega
        have p1 := T1.c1
        have p3 := T1.c3
        have p5 := T1.c5
        have m1 := mk01
        have m2 := mk02
        have m3 := mk12
        go_wp2_with fail
        go_quiet (fail)
        go_wp2_with fail
        go_ret
        exact ⟨rfl, ⟨hbr.os, hbr.tape, hbr.output, hbr.size, hbr.block⟩⟩

end Go.Proofs.Qxb6617130aMods
