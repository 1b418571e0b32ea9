import Derived.Test.Qxb6608790aModsClone
namespace Go.Proofs.Qxb6608790aMods
open Go.ChangeShapes Go.WideShapes Go.ChangeAt Go.RowKit Go.Maps

set_option maxHeartbeats 400000 in
theorem bytes7 (a0 a1 : Int) (a2 : Option Addr) (l2 c2 : Nat) (h2 : l2 ≤ maxLen) (w : World) :
    Calls Trym.prog 7 #[.int .i64 a0, .int .i64 a1, .slice a2 l2 c2] w fun e w' => (∃ r, e = .returned (.bool r)) ∧ w' = w := by
  unfold maxLen at h2
  go_enter Trym.func7, Trym.ntmps7
  go_wp2
  all_goals
    go_ret
    exact ⟨⟨_, rfl⟩, rfl⟩

set_option maxHeartbeats 400000 in
theorem size14 (be : Nat) (a0 : Int) (w : World) (h : w.cell? ⟨be, 0, none⟩ = some (.int .i64 a0)) :
    Calls Trym.prog 14 #[.pointer (some ⟨be, 0, none⟩)] w fun e w' => e = .returned (.int .i64 a0) ∧ w' = w := by
  go_enter Trym.func14, Trym.ntmps14
  go_wp2
  go_ret
  exact ⟨rfl, rfl⟩

set_option maxHeartbeats 400000 in
theorem n15 (be : Nat) (a1 : Int) (w : World) (h : w.cell? ⟨be, 1, none⟩ = some (.int .i64 a1)) :
    Calls Trym.prog 15 #[.pointer (some ⟨be, 0, none⟩)] w fun e w' => e = .returned (.int .i64 a1) ∧ w' = w := by
  go_enter Trym.func15, Trym.ntmps15
  go_wp2
  go_ret
  exact ⟨rfl, rfl⟩

set_option maxRecDepth 100000 in
set_option maxHeartbeats 400000 in
theorem sameRows (ba bb L ca cb : Nat) (f : Nat → Int) (w : World) (hL : L ≤ 1048576) (ha : Row w ba L f) (hb : Row w bb L f) :
    Calls Trym.prog 17 #[.slice (some ⟨ba, 0, none⟩) L ca, .slice (some ⟨bb, 0, none⟩) L cb] w fun e w' => Same w e w' := by
  have hl : ((L : Int) != (L : Int)) = false := by simp
  go_enter Trym.func17, Trym.ntmps17
  go_wp2
  go_loopw [5] (fun i wr => ∃ k : Nat, k ≤ L ∧ i = .int .i64 k ∧ ∃ n, wr = w.drewN n) (fun i _ => L - (intOf i).toNat)
  case atStart => exact ⟨0, Nat.zero_le _, rfl, 0, rfl⟩
  case round =>
    obtain ⟨k, hk, rfl, nd, rfl⟩ := hrel
    by_cases hlt : k < L
    · have c1 : w.cell? ⟨ba, k, none⟩ = some (.int .u64 (f k)) := ha.cell k hlt
      have c2 : w.cell? ⟨bb, k, none⟩ = some (.int .u64 (f k)) := hb.cell k hlt
      have hkl : (k : Int) < (L : Int) := by omega
      have hne : (f k != f k) = false := by simp
      go_wp2
      go_quiet (fail)
      go_wp2
      go_roundw
      case rel => exact ⟨k + 1, by omega, by go_num, _, rfl⟩
      case measure => simp [intOf]; omega
    · go_wp2
      go_ret
      exact ⟨rfl, _, rfl⟩

/-- what NewExtents hands back -/
def Newed (w : World) (a0 : Int) (n L : Nat) (e : Ending) (w' : World) : Prop :=
  ∃ bx g, e = .returned (.pointer (some ⟨bx, 0, none⟩)) ∧ w.heap.size ≤ bx ∧ bx < w'.heap.size ∧ w.heap.size ≤ g ∧ g ≠ bx ∧ w'.cell? ⟨bx, 0, none⟩ = some (.int .i64 a0) ∧ w'.cell? ⟨bx, 1, none⟩ = some (.int .i64 n) ∧ w'.cell? ⟨bx, 2, none⟩ = some (.slice (some ⟨g, 0, none⟩) L L) ∧ Arr w' g L (fun _ => 0) ∧ Below w.heap.size w w'

set_option maxRecDepth 100000 in
set_option maxHeartbeats 800000 in
theorem new12 (a0 : Int) (n L : Nat) (w : World) (hL : L ≤ 1048576) (hf : Fits a0 n L) :
    Calls Trym.prog 12 #[.int .i64 a0] w fun e w' => Newed w a0 n L e w' := by
  obtain ⟨h0, h1, h2, h3⟩ := hf
  obtain ⟨i0, hi, hz0, hz1, hz2⟩ := info_parts Trym.info33
  have E1 : Hid ((n : Int) = (a0 + 65536 - 1) / 65536) := by show _ = _; omega
  have E2 : ((a0 + 65536 - 1) / 65536 + 63) / 64 = (L : Int) := by omega
  clear h2 h3
  go_enter Trym.func12, Trym.ntmps12
  go_wp2_with (at_make; refine wpList_make_full _ rfl (.tmp 12) (.tmp 12) 22 rfl w.heap.size 33 i0 (.int .u64 0) 1 Trym.underlying22 hi hz0 hz1 .i64 .i64 _ _ L rfl rfl (by omega) (by omega) (by rw [hz2]; omega) (by unfold maxLen; omega) (Nat.le_refl _) ?_; intro w1 hown hgrow)
  have ha : Arr w1 w.heap.size L (fun _ => 0) := Arr.made hown
  have hb : Below w.heap.size w w1 := (Below.refl _ _).grown hgrow (Nat.le_refl _) (by simp)
  clear hown hgrow hi hz0 hz1 hz2
  go_wp2_with fail
  go_ret
  have hl := ha.lt
  refine ⟨w1.heap.size, w.heap.size, rfl, hb.size, by simp, Nat.le_refl _, by omega, by simp, by simp; exact E1.out.symm, by simp, ha.below ((Below.refl _ _).alloc (Nat.le_refl _) _) ha.lt, hb.alloc hb.size _⟩

end Go.Proofs.Qxb6608790aMods
