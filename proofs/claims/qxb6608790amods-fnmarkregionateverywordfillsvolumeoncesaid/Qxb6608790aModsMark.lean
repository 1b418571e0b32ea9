import Derived.Test.Qxb6608790aModsMem
namespace Go.Proofs.Qxb6608790aMods
open Go.ChangeShapes Go.WideShapes Go.ChangeAt Go.RowKit Go.Maps

set_option maxRecDepth 100000 in
set_option maxHeartbeats 1600000 in
theorem mark26 (bc be bw bm L n k : Nat) (f : Nat → Int) (m : Nat → Bool) (w : World) (hv : Vol w bc be bw bm L n f m) (hk : k < L) (hL : L ≤ 65536) (hn0 : 64 * (L - 1) < n) (hn1 : n ≤ 64 * L) :
    Calls Trym.prog 26 #[.pointer (some ⟨bc, 0, none⟩), .int .i64 (k : Int)] w fun e w' => Regioned w bc be bw bm L n k f m e w' := by
  have c29 := hv.c29
  have c30 := hv.c30
  have e1 := hv.e1
  have e2 := hv.e2
  go_enter Trym.func26, Trym.ntmps26
  go_wp2
  all_goals
    go_loopw [6] (fun i wr => ∃ j : Nat, k - k % 16 ≤ j ∧ j ≤ min (k - k % 16 + 16) L ∧ i = .int .i64 j ∧ Vol wr bc be bw bm L n (fReg n (k - k % 16) j f) (mReg n (k - k % 16) j f m) ∧ Chg (fun b => b = bw ∨ b = bm) w wr) (fun i _ => min (k - k % 16 + 16) L - (intOf i).toNat)
    case atStart => exact ⟨k - k % 16, Nat.le_refl _, by omega, by go_num, hv.start, Chg.refl _ _⟩
    case round =>
      obtain ⟨j, hj0, hj1, rfl, hv', hchg⟩ := hrel
      clear c29 c30 e1 e2 hv
      have c29 := hv'.c29
      have c30 := hv'.c30
      have e1 := hv'.e1
      have e2 := hv'.e2
      by_cases hlt : j < min (k - k % 16 + 16) L
      · have hcw := hv'.arr.cell j (by omega)
        have hfr := hv'.arr.free j
        have efj : fReg n (k - k % 16) j f j = f j := by simp [fReg]
        rw [efj] at hcw
        clear efj
        by_cases ht : (n : Int) - (j : Int) * 64 < 64
        · have HA : Hid (IntKind.u64.wrap (IntKind.u64.wrap (2 ^ (n - j * 64)) - 1) = full n j) := full_tail n j ht
          by_cases hq : f j = IntKind.u64.wrap (IntKind.u64.wrap (2 ^ (n - j * 64)) - 1)
          · have hqq : (f j != IntKind.u64.wrap (IntKind.u64.wrap (2 ^ (n - j * 64)) - 1)) = false := by simp [hq]
            have R := hv'.stepNo HA.out hj0 hq
            clear hq
            go_wp2_with fail
            go_roundw
            case rel => exact ⟨j + 1, by omega, by omega, by go_num, R, hchg⟩
            case measure => simp [intOf]; omega
          · have hqq : (f j != IntKind.u64.wrap (IntKind.u64.wrap (2 ^ (n - j * 64)) - 1)) = true := by simp [hq]
            have hvs := hv'.store j (IntKind.u64.wrap (IntKind.u64.wrap (2 ^ (n - j * 64)) - 1))
            have c30' := hvs.c30
            have HQ : Hid (¬ f j = IntKind.u64.wrap (IntKind.u64.wrap (2 ^ (n - j * 64)) - 1)) := hq
            clear hq
            go_wp2_with (at_mapUpdate; refine wpList_mark rfl (.tmp 71) (.tmp 72) _ rfl bm L _ _ j rfl hvs.marks (by omega) rfl rfl rfl (by omega) ?_; intro w1 hm1 hg1)
            have R := hv'.stepYes HA.out hj0 HQ.out hm1 hg1
            have C := hchg.step rfl hg1
            clear hm1 hg1 hvs c30' c29 c30 e1 e2 hcw hfr
            go_wp2_with fail
            go_roundw
            case rel => exact ⟨j + 1, by omega, by omega, by go_num, R, C⟩
            case measure => simp [intOf]; omega
        · have HA : Hid (18446744073709551615 = full n j) := full_whole n j ht
          by_cases hq : f j = 18446744073709551615
          · have hqq : (f j != 18446744073709551615) = false := by simp [hq]
            have R := hv'.stepNo HA.out hj0 hq
            clear hq
            go_wp2_with fail
            go_roundw
            case rel => exact ⟨j + 1, by omega, by omega, by go_num, R, hchg⟩
            case measure => simp [intOf]; omega
          · have hqq : (f j != 18446744073709551615) = true := by simp [hq]
            have hvs := hv'.store j 18446744073709551615
            have c30' := hvs.c30
            have HQ : Hid (¬ f j = 18446744073709551615) := hq
            clear hq
            go_wp2_with (at_mapUpdate; refine wpList_mark rfl (.tmp 71) (.tmp 72) _ rfl bm L _ _ j rfl hvs.marks (by omega) rfl rfl rfl (by omega) ?_; intro w1 hm1 hg1)
            have R := hv'.stepYes HA.out hj0 HQ.out hm1 hg1
            have C := hchg.step rfl hg1
            clear hm1 hg1 hvs c30' c29 c30 e1 e2 hcw hfr
            go_wp2_with fail
            go_roundw
            case rel => exact ⟨j + 1, by omega, by omega, by go_num, R, C⟩
            case measure => simp [intOf]; omega
      · obtain hje : j = min (k - k % 16 + 16) L := by omega
        have HV : Regioned w bc be bw bm L n k f m (.returned (.tuple #[])) wr := ⟨rfl, hje ▸ hv', hchg⟩
        clear hje
        go_wp2_with fail
        go_end0
        exact HV

end Go.Proofs.Qxb6608790aMods
