import Derived.Test.Qxb6614894aModsJoinB
namespace Go.Proofs.Qxb6614894aMods
open Go.ChangeShapes Go.WideShapes Go.ChangeAt Go.RowKit

def none_ (_ : Nat) : ByteArray := ByteArray.empty
theorem strs_none (w : World) (a : Option Addr) : Strs w a 0 none_ := fun h => absurd h (by omega)
theorem grants_none (p : ByteArray) : grants none_ p 0 = false := rfl

set_option maxRecDepth 100000 in
set_option maxHeartbeats 1600000 in
theorem joinA (k : Int) (p : ByteArray) (w : World) (wk : (Lit.int .i64 k).wf = true) (hp : p.size ≤ maxLen) :
    Calls Trym.prog 3 #[.slice none 0 0, .int .i64 k, .string p] w fun e w' => e = .returned (.bool true) ∧ Below w.heap.size w w' := by
  obtain ⟨bk0, bk1⟩ := bounds_i64 wk
  have hp' : p.size ≤ 9223372036854775807 := hp
  have hq := neqNil
  go_enter Trym.func3, Trym.ntmps3
  go_wp2_with fail
  refine (bytes5 none 0 0 none_ k p _ (Nat.zero_le _) hp (strs_none _ _) (fun i hi => absurd hi (by omega))).mono ?_
  rintro e w ⟨⟨r, rfl, hr⟩, rfl⟩
  clear hr
  cases r
  · go_wp2_with fail
    go_ret
    exact ⟨rfl, Below.refl _ _⟩
  · go_wp2_with fail
    refine (grow6 _ _ _ (by omega) (by omega)).mono ?_
    rintro e w ⟨rfl, rfl⟩
    have g0 := growF_bd 0 (p.size : Int)
    generalize growF 0 (p.size : Int) = t0 at *
    go_wp2_with fail
    refine wp_loop_rounds 1 ?_
    rw [rounds_succ]
    by_cases hzn : t0 < 0
    · go_wp2_with fail
      go_ret
      exact ⟨rfl, Below.refl _ _⟩
    · by_cases hk0 : k < 0
      · go_wp2_with fail
        go_ret
        exact ⟨rfl, Below.refl _ _⟩
      · by_cases hk1 : (0 : Int) < k
        · go_wp2_with fail
          go_ret
          exact ⟨rfl, Below.refl _ _⟩
        · obtain rfl : k = 0 := by omega
          go_wp2_with fail
          refine (holds7 none 0 0 none_ p _ (by omega) (strs_none _ _)).mono ?_
          rintro e w ⟨hr, rfl⟩
          unfold Grants at hr
          rw [grants_none] at hr
          subst hr
          go_wp2_with fail
          refine (holds7 none 0 0 none_ p _ (by omega) (strs_none _ _)).mono ?_
          rintro e w ⟨hr, rfl⟩
          unfold Grants at hr
          rw [grants_none] at hr
          subst hr
          go_wp2_with fail
          refine (holds7 none 0 0 none_ p _ (by omega) (strs_none _ _)).mono ?_
          rintro e w ⟨hr, rfl⟩
          unfold Grants at hr
          rw [grants_none] at hr
          subst hr
          go_wp2_with fail
          refine (insert8 none 0 0 0 none_ p _ (by omega) (by omega) (strs_none _ _)).mono ?_
          rintro e v5 ⟨b, rfl, hbw, hrow, hbl⟩
          have HI := grants_ins none_ p 0 0 (Nat.le_refl _)
          go_wp2_with fail
          refine (holds7 _ (0 + 1) (0 + 1) (ins none_ 0 p) p _ (by omega) hrow.strs).mono ?_
          rintro e v5 ⟨hr, rfl⟩
          unfold Grants at hr
          rw [HI] at hr
          subst hr
          go_wp2_with fail
          go_ret
          exact ⟨rfl, hbl⟩

/-- what the walk is told of a slice of strings that came in -/
def IsStrs (w : World) (a : Option Addr) (l c : Nat) (s : Nat → ByteArray) : Prop :=
  (a = none ∧ l = 0 ∧ c = 0) ∨ ∃ x, a = some x ∧ l ≤ maxLen ∧ (∀ i, i < l → w.cell? (x.add i) = some (.string (s i))) ∧ ∀ i, i < l → (s i).size ≤ maxLen

theorem join3 (a : Option Addr) (l c : Nat) (s : Nat → ByteArray) (k : Int) (p : ByteArray) (w : World) (ha : IsStrs w a l c s) (wk : (Lit.int .i64 k).wf = true) (hp : p.size ≤ maxLen) :
    Calls Trym.prog 3 #[.slice a l c, .int .i64 k, .string p] w fun e w' => e = .returned (.bool true) ∧ Below w.heap.size w w' := by
  rcases ha with ⟨rfl, rfl, rfl⟩ | ⟨x, rfl, hl, hc, hz⟩
  · exact joinA k p w wk hp
  · exact joinB x l c s k p w wk hl hp (fun _ => ⟨x, rfl, hc⟩) hz

end Go.Proofs.Qxb6614894aMods
