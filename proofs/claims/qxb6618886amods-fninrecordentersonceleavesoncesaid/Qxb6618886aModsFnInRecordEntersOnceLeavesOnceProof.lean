/-
  Own proof over the seat's shell: the walk is ours, the row's step is the shell's.
-/
import Derived.Test.Qxb6618886aModsRows
import Derived.WalkKit
import Derived.ProofKit
import Derived.OpenShut
import Derived.ShutString
namespace Go.Proofs.Qxb6618886aMods.fnInRecordEntersOnceLeavesOnce
open Go.ChangeShapes Go.WideShapes Go.ChangeAt Go.RowKit
open Go.ChangeMaps (open_string shut_string)
set_option linter.unusedVariables false      -- a walk need not use every 'w<i>' (that an integer argument fits its kind)

theorem own : ownKnob Trym.prog.godebug = none := by kernel_rfl

def inRec (k : Int) : Bool := decide (2 ≤ k ∧ k ≤ 4)
theorem ret_bool {a b : Bool} (h : a = b) : Ending.returned (.bool a) = .returned (.bool b) := by rw [h]

set_option maxHeartbeats 400000 in
theorem inRec_any (k : Int) (w : World) :
    Calls Trym.prog 7 #[.int .i64 k] w fun e w' => e = .returned (.bool (inRec k)) ∧ w' = w := by
  go_enter Trym.func7, Trym.ntmps7
  go_wp2
  · go_ret
    refine ⟨ret_bool ?_, rfl⟩
    simp [inRec]; omega
  · go_ret
    refine ⟨ret_bool ?_, rfl⟩
    simp [inRec]; omega
  · go_ret
    refine ⟨ret_bool ?_, rfl⟩
    rw [Bool.eq_iff_iff]; simp [inRec]; omega

def ent (a k : Int) : Int := if a ≤ 1 ∧ 1 < k then 1 else 0
def lea (a k : Int) : Int := if a ≤ 4 ∧ 4 < k then 1 else 0
def leaAt (a k : Int) : Int := if a ≤ 4 ∧ 4 < k then 5 else 0

theorem ent_bd (a k : Int) : 0 ≤ ent a k ∧ ent a k ≤ 1 := by unfold ent; split <;> omega
theorem lea_bd (a k : Int) : 0 ≤ lea a k ∧ lea a k ≤ 1 := by unfold lea; split <;> omega
theorem ent_start (a : Int) : ent a a = 0 := by unfold ent; split <;> omega
theorem lea_start (a : Int) : lea a a = 0 := by unfold lea; split <;> omega
theorem leaAt_start (a : Int) : leaAt a a = 0 := by unfold leaAt; split <;> omega
theorem ent_no (a k : Int) (h : k ≠ 1) : ent a (k + 1) = ent a k := by unfold ent; split <;> split <;> omega
theorem lea_no (a k : Int) (h : k ≠ 4) : lea a (k + 1) = lea a k := by unfold lea; split <;> split <;> omega
theorem leaAt_no (a k : Int) (h : k ≠ 4) : leaAt a (k + 1) = leaAt a k := by unfold leaAt; split <;> split <;> omega
theorem inRec_next (k : Int) (h1 : k ≠ 1) (h4 : k ≠ 4) : inRec (k + 1) = inRec k := by
  rw [Bool.eq_iff_iff]; simp [inRec]; omega

set_option maxHeartbeats 400000 in
theorem walk (a0 : Int) (a1 : Int) (w0 : (Lit.int .i64 a0).wf = true) (w1 : (Lit.int .i64 a1).wf = true) (w : World) :
    Calls Trym.prog 4 #[.int .i64 a0, .int .i64 a1] w fun e w' => e = .returned (.bool true) ∧ Grown w w' := by
  by_cases h0 : a1 < a0
  · go_enter Trym.func4, Trym.ntmps4
    go_wp2
    go_ret
    exact ⟨rfl, by repeat (first | exact Grown.refl _ | apply Grown.drew | apply Grown.alloc)⟩
  · obtain ⟨b00, b01⟩ := bounds_i64 w0
    obtain ⟨b10, b11⟩ := bounds_i64 w1
    clear w0 w1
    have c0 : a0 ≤ a1 := by omega
    go_enter Trym.func4, Trym.ntmps4
    go_wp2
    · go_ret
      exact ⟨rfl, Grown.refl _⟩
    · go_loop [5, 6, 7, 8, 9] (fun n l na la i => ∃ k : Int, a0 ≤ k ∧ k ≤ a1 ∧ i = .int .i64 k ∧ n = .int .i64 (ent a0 k) ∧ l = .int .i64 (lea a0 k) ∧ na = .int .i64 (ent a0 k) ∧ la = .int .i64 (leaAt a0 k)) (fun _ _ _ _ i => (a1 - intOf i).toNat)
      case atStart => exact ⟨a0, by omega, by omega, rfl, by simp [ent_start], by simp [lea_start], by simp [ent_start], by simp [leaAt_start]⟩
      case round =>
        obtain ⟨k, hk0, hk1, rfl, rfl, rfl, rfl, rfl⟩ := hrel
        have heb := ent_bd a0 k
        have hlb := lea_bd a0 k
        by_cases hlt : k < a1
        · by_cases h1 : k = 1
          · subst h1
            have r1 : inRec 1 = false := rfl
            have r2 : inRec 2 = true := rfl
            have e0 : ent a0 1 = 0 := by unfold ent; split <;> omega
            go_wp2_with (go_at_call 7; refine (inRec_any _ _).mono ?_; rintro e w' ⟨rfl, rfl⟩)
            go_round
            case rel => exact ⟨1 + 1, by omega, by omega, rfl, by simp [ent, hk0], by simp [lea], by simp [ent, hk0], by simp [leaAt]⟩
            case measure => simp [intOf]; omega
          · by_cases h4 : k = 4
            · subst h4
              have r1 : inRec 4 = true := rfl
              have r2 : inRec 5 = false := rfl
              have e0 : lea a0 4 = 0 := by unfold lea; split <;> omega
              go_wp2_with (go_at_call 7; refine (inRec_any _ _).mono ?_; rintro e w' ⟨rfl, rfl⟩)
              go_round
              case rel => exact ⟨4 + 1, by omega, by omega, rfl, by simp [ent], by simp [lea, hk0], by simp [ent], by simp [leaAt, hk0]⟩
              case measure => simp [intOf]; omega
            · have hnx := inRec_next k h1 h4
              cases hr : inRec k
              · rw [hr] at hnx
                go_wp2_with (go_at_call 7; refine (inRec_any _ _).mono ?_; rintro e w' ⟨rfl, rfl⟩)
                go_round
                case rel => exact ⟨k + 1, by omega, by omega, rfl, by rw [ent_no _ _ h1], by rw [lea_no _ _ h4], by rw [ent_no _ _ h1], by rw [leaAt_no _ _ h4]⟩
                case measure => simp [intOf]; omega
              · rw [hr] at hnx
                go_wp2_with (go_at_call 7; refine (inRec_any _ _).mono ?_; rintro e w' ⟨rfl, rfl⟩)
                go_round
                case rel => exact ⟨k + 1, by omega, by omega, rfl, by rw [ent_no _ _ h1], by rw [lea_no _ _ h4], by rw [ent_no _ _ h1], by rw [leaAt_no _ _ h4]⟩
                case measure => simp [intOf]; omega
        · have hne : k = a1 := by omega
          subst hne
          by_cases p1 : a0 ≤ 1 ∧ 1 < k
          · have e1 : ent a0 k = 1 := by unfold ent; simp [p1]
            obtain ⟨p11, p12⟩ := p1
            by_cases p2 : a0 ≤ 4 ∧ 4 < k
            · have e2 : lea a0 k = 1 := by unfold lea; simp [p2]
              have e3 : leaAt a0 k = 5 := by unfold leaAt; simp [p2]
              obtain ⟨p21, p22⟩ := p2
              have p23 : a0 < 5 := by omega
              have p24 : 5 ≤ k := by omega
              go_wp2
              go_ret
              exact ⟨rfl, Grown.refl _⟩
            · have e2 : lea a0 k = 0 := by unfold lea; simp [p2]
              have e3 : leaAt a0 k = 0 := by unfold leaAt; simp [p2]
              have p23 : a0 < 5 := by omega
              have p24 : k < 5 := by omega
              clear p2
              go_wp2
              go_ret
              exact ⟨rfl, Grown.refl _⟩
          · have e1 : ent a0 k = 0 := by unfold ent; simp [p1]
            by_cases p2 : a0 ≤ 4 ∧ 4 < k
            · have e2 : lea a0 k = 1 := by unfold lea; simp [p2]
              have e3 : leaAt a0 k = 5 := by unfold leaAt; simp [p2]
              obtain ⟨p21, p22⟩ := p2
              have p23 : a0 < 5 := by omega
              have p24 : 5 ≤ k := by omega
              have p25 : 1 < a0 := by omega
              clear p1
              go_wp2
              go_ret
              exact ⟨rfl, Grown.refl _⟩
            · have e2 : lea a0 k = 0 := by unfold lea; simp [p2]
              have e3 : leaAt a0 k = 0 := by unfold leaAt; simp [p2]
              by_cases p3 : a0 ≤ 1
              · have p4 : k ≤ 1 := by omega
                have p5 : a0 < 5 := by omega
                have p6 : k < 5 := by omega
                clear p1 p2
                go_wp2
                go_ret
                exact ⟨rfl, Grown.refl _⟩
              · by_cases p7 : a0 < 5
                · have p8 : k < 5 := by omega
                  clear p1 p2
                  go_wp2
                  go_ret
                  exact ⟨rfl, Grown.refl _⟩
                · clear p1 p2
                  go_wp2
                  go_ret
                  exact ⟨rfl, Grown.refl _⟩

/-! ### THE ROW's STEP: WRITTEN OUT: LEAVE IT -/
set_option maxRecDepth 100000 in
theorem lifted (os : Os) (started : os.Started) (H : Type) (enc : TypeId × Value → H) :
    ReturnsInHanded {} Trym.checked os 4 .any (Rows.fnInRecordEntersOnceLeavesOnceSpec.pre6 enc Trym.prog Trym.f4 Rows.fnInRecordEntersOnceLeavesOnceRow.domain false) (Rows.fnInRecordEntersOnceLeavesOnceSpec.post enc Trym.prog Trym.f4 false true false false) := by
  refine returnsInHanded_of_change (C := Trym.checked) own started (by kernel_rfl) Trym.func4
    (ChangeSpec.witness6 (enc := enc) (C := Trym.checked) false ⟨#[], #[.int .i64 0, .int .i64 0], []⟩ 8 (by kernel_rfl) (by kernel_rfl) (by kernel_rfl) (by kernel_rfl)) ?_
  intro W base args ds gs before hval0 hW hcnd _
  have hval : ∀ (j : Nat) t v, Trym.f4.params[j]? = some t → args[j]? = some v → Value.okWide Trym.prog W .any base t v := hval0
  have hW' := hW
  obtain ⟨p, q, hA0, hV, rfl, hfz, hnd⟩ := hW
  have hA : DataW.TrodAll enc Trym.prog W 0 (fun _ => true) true Trym.f4.params.toList args.toList ds p := hA0
  rw [Trym.params4] at hA hval
  obtain ⟨v0, vs0, d0, ds0, p0, q0, hargs, rfl, rfl, h0, r0⟩ := trodAll_cons hA
  obtain ⟨v1, vs1, d1, ds1, p1, q1, rfl, rfl, rfl, h1, r1⟩ := trodAll_cons r0
  obtain ⟨rfl, rfl, rfl⟩ := trodAll_nil r1
  obtain rfl : args = #[v0, v1] := by cases args; simp_all
  obtain ⟨rfl, rfl⟩ := trodVars_none hV
  obtain ⟨a0, rfl, rfl, rfl, w0⟩ := open_int Trym.underlying3 (hval 0 3 v0 rfl rfl) h0
  obtain ⟨a1, rfl, rfl, rfl, w1⟩ := open_int Trym.underlying3 (hval 1 3 v1 rfl rfl) h1
  clear hA0 hval0
  simp only [List.append_nil] at hW'
  refine (walk a0 a1 w0 w1 W).mono fun e W' ⟨he, hg⟩ => ?_
  subst he
  exact ⟨_, rfl, post_of_same (pa := []) (pv := []) hW' (fun _ _ _ => (trodAll_cons_mk (shut_bool Trym.underlying4 _) trodAll_mk0)) (fun sp _ => (trodAll_cons_mk (shut_int Trym.underlying3 w0) (trodAll_cons_mk (shut_int Trym.underlying3 w1) trodAll_mk0))) (fun _ _ => rfl) rfl
    (hg.frame _) hg.2.1 (ok_one (by kernel_rfl) rfl (okWide_bool_mk Trym.underlying4 _))⟩

theorem over : Rows.fnInRecordEntersOnceLeavesOnceRow.holds Trym.pinned (OpenSpec.ofChange Rows.fnInRecordEntersOnceLeavesOnceSpec) :=
  OpenClaim.holds_of_wide 4 Trym.f4 rfl rfl rfl rfl rfl rfl rfl ⟨rfl, rfl, rfl, rfl, rfl⟩ rfl rfl rfl rfl rfl (by kernel_rfl) Trym.func4 (by kernel_rfl)
    (of_decide_eq_true (by kernel_rfl)) (by unfold Func.isWrapper; first | (rw [if_pos (by decide +kernel)]; kernel_rfl) | (rw [if_neg (by decide +kernel)]; exact ⟨rfl, rfl⟩))
    (fun os started H enc _ => lifted os started H enc)

/-- ████ THE STATEMENT ████ -/
theorem proved : Rows.FnInRecordEntersOnceLeavesOnceSaid :=
  over
#print axioms proved
end Go.Proofs.Qxb6618886aMods.fnInRecordEntersOnceLeavesOnce
