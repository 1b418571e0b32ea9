/-
  Own proof over the seat's shell: the walk is ours, the row's step is the shell's.
-/
import Derived.Test.Qxb6618886aModsRows
import Derived.WalkKit
import Derived.ProofKit
import Derived.OpenShut
import Derived.ShutString
namespace Go.Proofs.Qxb6618886aMods.fnInRecordWindowCount
open Go.ChangeShapes Go.WideShapes Go.ChangeAt Go.RowKit
open Go.ChangeMaps (open_string shut_string)
set_option linter.unusedVariables false      -- a walk need not use every 'w<i>' (that an integer argument fits its kind)

theorem own : ownKnob Trym.prog.godebug = none := by kernel_rfl

def inRec (k : Int) : Bool := decide (2 ≤ k ∧ k ≤ 4)
theorem ret_bool {a b : Bool} (h : a = b) : Ending.returned (.bool a) = .returned (.bool b) := by rw [h]

set_option maxHeartbeats 400000 in
theorem inRec_any (k : Int) (w : World) :
    Calls Trym.prog 7 #[.int .i64 k] w fun e w' => e = .returned (.bool (inRec k)) ∧ w' = w := by
  go_enter Trym.func7, Trym.ntmps7
  go_wp2
  · go_ret
    refine ⟨ret_bool ?_, rfl⟩
    simp [inRec]; omega
  · go_ret
    refine ⟨ret_bool ?_, rfl⟩
    simp [inRec]; omega
  · go_ret
    refine ⟨ret_bool ?_, rfl⟩
    rw [Bool.eq_iff_iff]; simp [inRec]; omega

/-- how many of the integers from a up to, not including, k lie in 2 .. 4 -/
def cnt (a k : Int) : Int := if min k 5 ≤ max a 2 then 0 else min k 5 - max a 2

theorem cnt_bd (a k : Int) : 0 ≤ cnt a k ∧ cnt a k ≤ 3 := by unfold cnt; split <;> omega
theorem cnt_yes (a k : Int) (h : a ≤ k) (hk : inRec k = true) : cnt a (k + 1) = cnt a k + 1 := by
  simp [inRec] at hk; unfold cnt; split <;> split <;> omega
theorem cnt_no (a k : Int) (h : a ≤ k) (hk : inRec k = false) : cnt a (k + 1) = cnt a k := by
  simp [inRec] at hk; unfold cnt; split <;> split <;> omega

set_option maxHeartbeats 400000 in
theorem walk (a0 : Int) (a1 : Int) (w0 : (Lit.int .i64 a0).wf = true) (w1 : (Lit.int .i64 a1).wf = true) (w : World) :
    Calls Trym.prog 3 #[.int .i64 a0, .int .i64 a1] w fun e w' => e = .returned (.bool true) ∧ Grown w w' := by
  by_cases h0 : a1 < a0
  · go_enter Trym.func3, Trym.ntmps3
    go_wp2
    go_ret
    exact ⟨rfl, by repeat (first | exact Grown.refl _ | apply Grown.drew | apply Grown.alloc)⟩
  · obtain ⟨b00, b01⟩ := bounds_i64 w0
    obtain ⟨b10, b11⟩ := bounds_i64 w1
    clear w0 w1
    have c0 : a0 ≤ a1 := by omega
    go_enter Trym.func3, Trym.ntmps3
    go_wp2
    · go_ret
      exact ⟨rfl, Grown.refl _⟩
    · go_loop [5, 6] (fun n i => ∃ k : Int, a0 ≤ k ∧ k ≤ a1 ∧ i = .int .i64 k ∧ n = .int .i64 (cnt a0 k)) (fun _ i => (a1 - intOf i).toNat)
      case atStart => exact ⟨a0, by omega, by omega, rfl, by simp; unfold cnt; split <;> omega⟩
      case round =>
        obtain ⟨k, hk0, hk1, rfl, rfl⟩ := hrel
        have hcb := cnt_bd a0 k
        by_cases hr : inRec k = true
        · by_cases hlt : k < a1
          · have hne : (k == a1) = false := by simp; omega
            go_wp2_with (go_at_call 7; refine (inRec_any _ _).mono ?_; rintro e w' ⟨rfl, rfl⟩)
            go_round
            case rel => exact ⟨k + 1, by omega, by omega, rfl, by rw [cnt_yes a0 k hk0 hr]⟩
            case measure => simp [intOf]; omega
          · have hne : k = a1 := by omega
            subst hne
            go_wp2_with (go_at_call 7; refine (inRec_any _ _).mono ?_; rintro e w' ⟨rfl, rfl⟩)
            all_goals
              go_ret
              refine ⟨ret_bool ?_, Grown.refl _⟩
              simp [inRec] at hr
              rw [beq_iff_eq]
              unfold cnt
              omega
        · have hr : inRec k = false := by simpa using hr
          by_cases hlt : k < a1
          · have hne : (k == a1) = false := by simp; omega
            go_wp2_with (go_at_call 7; refine (inRec_any _ _).mono ?_; rintro e w' ⟨rfl, rfl⟩)
            go_round
            case rel => exact ⟨k + 1, by omega, by omega, rfl, by rw [cnt_no a0 k hk0 hr]⟩
            case measure => simp [intOf]; omega
          · have hne : k = a1 := by omega
            subst hne
            go_wp2_with (go_at_call 7; refine (inRec_any _ _).mono ?_; rintro e w' ⟨rfl, rfl⟩)
            all_goals
              go_ret
              refine ⟨ret_bool ?_, Grown.refl _⟩
              simp [inRec] at hr
              rw [beq_iff_eq]
              unfold cnt
              omega

/-! ### THE ROW's STEP: WRITTEN OUT: LEAVE IT -/
set_option maxRecDepth 100000 in
theorem lifted (os : Os) (started : os.Started) (H : Type) (enc : TypeId × Value → H) :
    ReturnsInHanded {} Trym.checked os 3 .any (Rows.fnInRecordWindowCountSpec.pre6 enc Trym.prog Trym.f3 Rows.fnInRecordWindowCountRow.domain false) (Rows.fnInRecordWindowCountSpec.post enc Trym.prog Trym.f3 false true false false) := by
  refine returnsInHanded_of_change (C := Trym.checked) own started (by kernel_rfl) Trym.func3
    (ChangeSpec.witness6 (enc := enc) (C := Trym.checked) false ⟨#[], #[.int .i64 0, .int .i64 0], []⟩ 8 (by kernel_rfl) (by kernel_rfl) (by kernel_rfl) (by kernel_rfl)) ?_
  intro W base args ds gs before hval0 hW hcnd _
  have hval : ∀ (j : Nat) t v, Trym.f3.params[j]? = some t → args[j]? = some v → Value.okWide Trym.prog W .any base t v := hval0
  have hW' := hW
  obtain ⟨p, q, hA0, hV, rfl, hfz, hnd⟩ := hW
  have hA : DataW.TrodAll enc Trym.prog W 0 (fun _ => true) true Trym.f3.params.toList args.toList ds p := hA0
  rw [Trym.params3] at hA hval
  obtain ⟨v0, vs0, d0, ds0, p0, q0, hargs, rfl, rfl, h0, r0⟩ := trodAll_cons hA
  obtain ⟨v1, vs1, d1, ds1, p1, q1, rfl, rfl, rfl, h1, r1⟩ := trodAll_cons r0
  obtain ⟨rfl, rfl, rfl⟩ := trodAll_nil r1
  obtain rfl : args = #[v0, v1] := by cases args; simp_all
  obtain ⟨rfl, rfl⟩ := trodVars_none hV
  obtain ⟨a0, rfl, rfl, rfl, w0⟩ := open_int Trym.underlying3 (hval 0 3 v0 rfl rfl) h0
  obtain ⟨a1, rfl, rfl, rfl, w1⟩ := open_int Trym.underlying3 (hval 1 3 v1 rfl rfl) h1
  clear hA0 hval0
  simp only [List.append_nil] at hW'
  refine (walk a0 a1 w0 w1 W).mono fun e W' ⟨he, hg⟩ => ?_
  subst he
  exact ⟨_, rfl, post_of_same (pa := []) (pv := []) hW' (fun _ _ _ => (trodAll_cons_mk (shut_bool Trym.underlying4 _) trodAll_mk0)) (fun sp _ => (trodAll_cons_mk (shut_int Trym.underlying3 w0) (trodAll_cons_mk (shut_int Trym.underlying3 w1) trodAll_mk0))) (fun _ _ => rfl) rfl
    (hg.frame _) hg.2.1 (ok_one (by kernel_rfl) rfl (okWide_bool_mk Trym.underlying4 _))⟩

theorem over : Rows.fnInRecordWindowCountRow.holds Trym.pinned (OpenSpec.ofChange Rows.fnInRecordWindowCountSpec) :=
  OpenClaim.holds_of_wide 3 Trym.f3 rfl rfl rfl rfl rfl rfl rfl ⟨rfl, rfl, rfl, rfl, rfl⟩ rfl rfl rfl rfl rfl (by kernel_rfl) Trym.func3 (by kernel_rfl)
    (of_decide_eq_true (by kernel_rfl)) (by unfold Func.isWrapper; first | (rw [if_pos (by decide +kernel)]; kernel_rfl) | (rw [if_neg (by decide +kernel)]; exact ⟨rfl, rfl⟩))
    (fun os started H enc _ => lifted os started H enc)

/-- ████ THE STATEMENT ████ -/
theorem proved : Rows.FnInRecordWindowCountSaid :=
  over
#print axioms proved
end Go.Proofs.Qxb6618886aMods.fnInRecordWindowCount
