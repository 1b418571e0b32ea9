import Derived.Test.Qxb6608790aModsMain6
namespace Go.Proofs.Qxb6608790aMods
open Go.ChangeShapes Go.WideShapes Go.ChangeAt Go.RowKit Go.Maps

def IsBools (w : World) (a : Option Addr) (len cap : Nat) (d : Nat → Bool) : Prop :=
  (a = none ∧ len = 0 ∧ cap = 0) ∨ ∃ y, a = some y ∧ len ≤ cap ∧ cap ≤ maxLen ∧ ∀ i, i < cap → w.cell? (y.add i) = some (.bool (d i))

set_option maxRecDepth 100000 in
set_option maxHeartbeats 1600000 in
theorem early6 (a0 a1 : Int) (a2 a3 : Option Addr) (l2 c2 l3 c3 : Nat) (z2 : List Int) (w : World) (w0 : (Lit.int .i64 a0).wf = true) (w1 : (Lit.int .i64 a1).wf = true)
    (hrow : IsRow .u64 w a2 l2 c2 z2) (h2 : l2 ≤ maxLen) (h3 : l3 ≤ maxLen) (hbad : 65536 < l2 ∨ 65536 < l3 ∨ l2 ≠ l3) :
    Calls Trym.prog 6 #[.int .i64 a0, .int .i64 a1, .slice a2 l2 c2, .slice a3 l3 c3] w fun e w' => e = .returned (.bool true) ∧ Below w.heap.size w w' := by
  have m2 : l2 ≤ 9223372036854775807 := h2
  have m3 : l3 ≤ 9223372036854775807 := h3
  by_cases g2 : 65536 < l2
  · go_enter Trym.func6, Trym.ntmps6
    go_wp2_with fail
    refine (bytes24 _ _ _ _ _ _ _ _ h2 h3 _).mono ?_
    rintro e w ⟨⟨r, rfl⟩, rfl⟩
    cases r
    all_goals
      go_wp2_with fail
      go_ret
      exact ⟨rfl, Below.refl _ _⟩
  · by_cases g3 : 65536 < l3
    · go_enter Trym.func6, Trym.ntmps6
      go_wp2_with fail
      refine (bytes24 _ _ _ _ _ _ _ _ h2 h3 _).mono ?_
      rintro e w ⟨⟨r, rfl⟩, rfl⟩
      cases r
      all_goals
        go_wp2_with fail
        go_ret
        exact ⟨rfl, Below.refl _ _⟩
    · have hne : ((l3 : Int) != (l2 : Int)) = true := by simp; omega
      clear hbad
      go_enter Trym.func6, Trym.ntmps6
      go_wp2_with fail
      refine (bytes24 _ _ _ _ _ _ _ _ h2 h3 _).mono ?_
      rintro e w ⟨⟨r, rfl⟩, rfl⟩
      cases r
      · go_wp2_with fail
        go_ret
        exact ⟨rfl, Below.refl _ _⟩
      · go_wp2_with fail
        refine (reach8 _ _ _ _ _ _ _ w0 w1 hrow).mono ?_
        rintro e w ⟨⟨r, rfl, hfit⟩, rfl⟩
        clear hfit
        cases r
        all_goals
          go_wp2_with fail
          go_ret
          exact ⟨rfl, Below.refl _ _⟩

set_option maxRecDepth 100000 in
set_option maxHeartbeats 1600000 in
theorem empty6 (a0 a1 : Int) (a2 a3 : Option Addr) (c2 c3 : Nat) (z2 : List Int) (w : World) (w0 : (Lit.int .i64 a0).wf = true) (w1 : (Lit.int .i64 a1).wf = true)
    (hrow : IsRow .u64 w a2 0 c2 z2) :
    Calls Trym.prog 6 #[.int .i64 a0, .int .i64 a1, .slice a2 0 c2, .slice a3 0 c3] w fun e w' => e = .returned (.bool true) ∧ Below w.heap.size w w' := by
  go_enter Trym.func6, Trym.ntmps6
  go_wp2_with fail
  refine (bytes24 _ _ _ _ _ _ _ _ (by unfold maxLen; omega) (by unfold maxLen; omega) _).mono ?_
  rintro e w ⟨⟨r, rfl⟩, rfl⟩
  cases r
  · go_wp2_with fail
    go_ret
    exact ⟨rfl, Below.refl _ _⟩
  · go_wp2_with fail
    refine (reach8 _ _ _ _ _ _ _ w0 w1 hrow).mono ?_
    rintro e w ⟨⟨r, rfl, hfit⟩, rfl⟩
    cases r
    · clear hfit
      go_wp2_with fail
      go_ret
      exact ⟨rfl, Below.refl _ _⟩
    · have hfit := hfit rfl
      obtain ⟨hf0, hf1, hf2, hf3⟩ := hfit
      obtain rfl : a1 = 0 := by omega
      clear hf0 hf1 hf2 hf3 hrow w0 w1
      obtain ⟨i0, hi, hz0, hz1, hz2⟩ := info_parts Trym.info33
      go_wp2_with fail
      refine (copy9z a2 c2 _).mono ?_
      rintro e v1 ⟨ao, rfl, hbe1⟩
      go_wp2_with fail
      refine (copy9z ao 0 _).mono ?_
      rintro e v2 ⟨ap, rfl, hbe2⟩
      have hbe := hbe1.trans (hbe2.mono hbe1.size)
      clear hbe1 hbe2
      go_wp2_with (at_make; refine wpList_make_full _ rfl (.tmp 49) (.tmp 49) 22 rfl w.heap.size 33 i0 (.int .u64 0) 1 Trym.underlying22 hi hz0 hz1 .i64 .i64 _ _ 0 rfl rfl rfl rfl (by omega) (by unfold maxLen; omega) hbe.size ?_; intro v3 hown hgrow)
      have hbe := hbe.grown hgrow hbe.size (by simp)
      clear hown hgrow hi hz0 hz1 hz2
      have hmm := @run_makeMap Trym.prog
      have hmk := Marks.made v3 0
      have hb5 := hbe.alloc hbe.size (.map #[] 0)
      refine wp_loop_rounds 1 ?_
      rw [rounds_succ]
      go_wp2_with fail
      refine wp_loop_rounds 1 ?_
      rw [rounds_succ]
      go_wp2_with fail
      refine (new10 _ _ _ _ _ _).mono ?_
      rintro e v7 ⟨rfl, hv7⟩
      have h7 : Below v3.heap.size (v3.alloc (.map #[] 0)) v7 := by rw [hv7]; exact (Below.refl _ _).alloc (by simp) _
      have hs7 : v7.heap.size = v3.heap.size + 2 := by rw [hv7]; simp
      have e72 : v7.cell? ⟨v3.heap.size + 1, 2, none⟩ = some (.slice ao 0 0) := by rw [hv7]; simp
      have hm7 : Marks v7 v3.heap.size 0 (fun _ => false) := by
        refine hmk.same ?_
        rw [hv7]; exact Below.heap_alloc _ _ _ (by simp)
      have hb7 : Below w.heap.size w v7 := hb5.trans (h7.mono hbe.size)
      clear hv7 h7 hmk hb5
      go_wp2_with fail
      refine (new20 _ _ _).mono ?_
      rintro e v8 ⟨rfl, hs8, c29, c30, h8⟩
      have e82 : v8.cell? ⟨v3.heap.size + 1, 2, none⟩ = some (.slice ao 0 0) := (h8.cell (by simp; omega)).trans e72
      have hm8 : Marks v8 v3.heap.size 0 (fun _ => false) := hm7.same (h8.block _ (by omega))
      have hb8 : Below w.heap.size w v8 := hb7.trans (h8.mono hb7.size)
      clear e72 hm7 hb7 h8 hs8 hs7 hmm hbe
      generalize v7.heap.size = bc at *
      go_wp2_with fail
      go_loopw [15] (fun i wr => ∃ p : Nat, p ≤ 2 ∧ i = .int .i64 p ∧ wr = v8) (fun i _ => 2 - (intOf i).toNat)
      case atStart => exact ⟨0, by omega, rfl, rfl⟩
      case round =>
        obtain ⟨p, hp2, rfl, hwr⟩ := hrel
        subst hwr
        by_cases hlp : p < 2
        · have hlpd : decide ((p : Int) < 2) = true := by simp; omega
          go_wp2_with fail
          refine wp_loop_rounds 1 ?_
          rw [rounds_succ]
          go_wp2_with fail
          refine (durable22 _ _ _ c29).mono ?_
          rintro e v8 ⟨rfl, rfl⟩
          go_wp2_with fail
          refine (words16 _ _ _ _ _ e82).mono ?_
          rintro e v8 ⟨rfl, rfl⟩
          go_wp2_with fail
          refine (same17z _ _ _ _ _).mono ?_
          rintro e v8 ⟨rfl, rfl⟩
          go_wp2_with fail
          refine (dirty23 _ _ _ c30).mono ?_
          rintro e v8 ⟨rfl, rfl⟩
          go_wp2_with fail
          refine wp_loop_rounds 1 ?_
          rw [rounds_succ]
          go_wp2_with (at_len; refine wpList_marks rfl (.tmp 139) rfl v3.heap.size 0 (fun _ => false) rfl hm8 ?_)
          go_roundw
          case rel => exact ⟨p + 1, by omega, by go_num, trivial⟩
          case measure => simp [intOf]; omega
        · go_wp2_with fail
          go_ret
          exact ⟨rfl, hb8⟩

set_option maxRecDepth 100000 in
set_option maxHeartbeats 1600000 in
theorem neg6 (a0 a1 : Int) (a2 a3 : Option Addr) (l c2 c3 : Nat) (z2 : List Int) (w : World) (w0 : (Lit.int .i64 a0).wf = true) (w1 : (Lit.int .i64 a1).wf = true)
    (hrow : IsRow .u64 w a2 l c2 z2) (h2 : l ≤ maxLen) (hneg : a1 < 0) (hl : l ≤ 65536) :
    Calls Trym.prog 6 #[.int .i64 a0, .int .i64 a1, .slice a2 l c2, .slice a3 l c3] w fun e w' => e = .returned (.bool true) ∧ Below w.heap.size w w' := by
  go_enter Trym.func6, Trym.ntmps6
  go_wp2_with fail
  refine (bytes24 _ _ _ _ _ _ _ _ h2 h2 _).mono ?_
  rintro e w ⟨⟨r, rfl⟩, rfl⟩
  cases r
  · go_wp2_with fail
    go_ret
    exact ⟨rfl, Below.refl _ _⟩
  · go_wp2_with fail
    refine (reach8 _ _ _ _ _ _ _ w0 w1 hrow).mono ?_
    rintro e w ⟨⟨r, rfl, hfit⟩, rfl⟩
    cases r
    · clear hfit
      go_wp2_with fail
      go_ret
      exact ⟨rfl, Below.refl _ _⟩
    · obtain ⟨hf0, hf1, hf2, hf3⟩ := hfit rfl
      omega

theorem walk6 (a0 a1 : Int) (a2 a3 : Option Addr) (l2 c2 l3 c3 : Nat) (z2 : List Int) (d : Nat → Bool) (w : World) (w0 : (Lit.int .i64 a0).wf = true) (w1 : (Lit.int .i64 a1).wf = true)
    (h2 : IsRow .u64 w a2 l2 c2 z2) (h3 : IsBools w a3 l3 c3 d) :
    Calls Trym.prog 6 #[.int .i64 a0, .int .i64 a1, .slice a2 l2 c2, .slice a3 l3 c3] w fun e w' => e = .returned (.bool true) ∧ Below w.heap.size w w' := by
  have m2 : l2 ≤ maxLen := by
    rcases h2 with ⟨_, rfl, _, _⟩ | ⟨x, _, hl, hm, _⟩
    · exact Nat.zero_le _
    · exact Nat.le_trans hl hm
  have m3 : l3 ≤ maxLen := by
    rcases h3 with ⟨_, rfl, _⟩ | ⟨x, _, hl, hm, _⟩
    · exact Nat.zero_le _
    · exact Nat.le_trans hl hm
  by_cases hbad : 65536 < l2 ∨ 65536 < l3 ∨ l2 ≠ l3
  · exact early6 a0 a1 a2 a3 l2 c2 l3 c3 z2 w w0 w1 h2 m2 m3 hbad
  · obtain rfl : l2 = l3 := by omega
    by_cases hz : l2 = 0
    · subst hz
      exact empty6 a0 a1 a2 a3 c2 c3 z2 w w0 w1 h2
    · have h2' := h2
      rcases h2 with ⟨_, h, _, _⟩ | ⟨x, rfl, hl, hm, hzl, hcell, hwz⟩
      · exact absurd h hz
      · rcases h3 with ⟨_, h, _⟩ | ⟨y, rfl, hl3, hm3, hd⟩
        · exact absurd h hz
        · obtain ⟨b0, b1⟩ := bounds_i64 w1
          by_cases hneg : a1 < 0
          · exact neg6 a0 a1 (some x) (some y) l2 c2 c3 z2 w w0 w1 h2' m2 hneg (by omega)
          · obtain ⟨n, rfl⟩ := Int.eq_ofNat_of_zero_le (show 0 ≤ a1 by omega)
            exact main6 a0 n x y l2 c2 c3 (fun i => z2.getD i 0) d z2 w w0 w1 h2' (by omega) (by omega) (fun i hi => hcell i (by omega)) (fun i hi => hd i (by omega))

end Go.Proofs.Qxb6608790aMods
