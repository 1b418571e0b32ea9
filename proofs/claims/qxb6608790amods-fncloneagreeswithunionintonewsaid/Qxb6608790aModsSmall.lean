import Derived.Test.Qxb6608790aModsMem
namespace Go.Proofs.Qxb6608790aMods
open Go.ChangeShapes Go.WideShapes Go.ChangeAt Go.RowKit Go.Maps

def CopiedNone (w : World) (e : Ending) (w' : World) : Prop := ∃ ao, e = .returned (.slice ao 0 0) ∧ Below w.heap.size w w'

set_option maxRecDepth 100000 in
set_option maxHeartbeats 800000 in
theorem copy9z (a : Option Addr) (c : Nat) (w : World) :
    Calls Trym.prog 9 #[.slice a 0 c] w fun e w' => CopiedNone w e w' := by
  obtain ⟨i0, hi, hz0, hz1, hz2⟩ := info_parts Trym.info33
  have hq := eqNil
  cases a with
  | none =>
    go_enter Trym.func9, Trym.ntmps9
    go_wp2
    go_ret
    exact ⟨_, rfl, Below.refl _ _⟩
  | some x =>
    go_enter Trym.func9, Trym.ntmps9
    go_wp2_with (at_make; refine wpList_make_full _ rfl (.tmp 8) (.tmp 8) 22 rfl w.heap.size 33 i0 (.int .u64 0) 1 Trym.underlying22 hi hz0 hz1 .i64 .i64 _ _ 0 rfl rfl rfl rfl (by omega) (by unfold maxLen; omega) (Nat.le_refl _) ?_; intro w1 hown hgrow)
    have hb : Below w.heap.size w w1 := (Below.refl _ _).grown hgrow (Nat.le_refl _) (by simp)
    clear hown hgrow hi hz0 hz1 hz2
    refine wp_loop_rounds 1 ?_
    rw [rounds_succ]
    go_wp2
    go_ret
    exact ⟨_, rfl, hb⟩

set_option maxHeartbeats 400000 in
theorem new10 (a0 a1 : Int) (a : Option Addr) (l c : Nat) (w : World) :
    Calls Trym.prog 10 #[.int .i64 a0, .int .i64 a1, .slice a l c] w fun e w' => e = .returned (.pointer (some ⟨w.heap.size, 0, none⟩)) ∧ w' = w.alloc (.cells #[.int .i64 a0, .int .i64 a1, .slice a l c] 46) := by
  go_enter Trym.func10, Trym.ntmps10
  go_wp2
  go_ret
  exact ⟨rfl, rfl⟩

set_option maxHeartbeats 400000 in
theorem words16 (be : Nat) (a : Option Addr) (l c : Nat) (w : World) (h : w.cell? ⟨be, 2, none⟩ = some (.slice a l c)) :
    Calls Trym.prog 16 #[.pointer (some ⟨be, 0, none⟩)] w fun e w' => e = .returned (.slice a l c) ∧ w' = w := by
  go_enter Trym.func16, Trym.ntmps16
  go_wp2
  go_ret
  exact ⟨rfl, rfl⟩

set_option maxHeartbeats 400000 in
theorem durable22 (bc be : Nat) (w : World) (h : w.cell? ⟨bc, 29, none⟩ = some (.pointer (some ⟨be, 0, none⟩))) :
    Calls Trym.prog 22 #[.pointer (some ⟨bc, 0, none⟩)] w fun e w' => e = .returned (.pointer (some ⟨be, 0, none⟩)) ∧ w' = w := by
  go_enter Trym.func22, Trym.ntmps22
  go_wp2
  go_ret
  exact ⟨rfl, rfl⟩

set_option maxHeartbeats 400000 in
theorem dirty23 (bc bm : Nat) (w : World) (h : w.cell? ⟨bc, 30, none⟩ = some (.map (some bm))) :
    Calls Trym.prog 23 #[.pointer (some ⟨bc, 0, none⟩)] w fun e w' => e = .returned (.map (some bm)) ∧ w' = w := by
  go_enter Trym.func23, Trym.ntmps23
  go_wp2
  go_ret
  exact ⟨rfl, rfl⟩

def Changed (w : World) (be bm : Nat) (e : Ending) (w' : World) : Prop :=
  e = .returned (.pointer (some ⟨w.heap.size, 0, none⟩)) ∧ w'.heap.size = w.heap.size + 1 ∧ w'.cell? ⟨w.heap.size, 29, none⟩ = some (.pointer (some ⟨be, 0, none⟩)) ∧ w'.cell? ⟨w.heap.size, 30, none⟩ = some (.map (some bm)) ∧ Below w.heap.size w w'

set_option maxRecDepth 100000 in
set_option maxHeartbeats 400000 in
theorem new20 (be bm : Nat) (w : World) :
    Calls Trym.prog 20 #[.pointer (some ⟨be, 0, none⟩), .map (some bm)] w fun e w' => Changed w be bm e w' := by
  go_enter Trym.func20, Trym.ntmps20
  go_wp2
  go_ret
  exact ⟨rfl, by simp, by simp, by simp, (Below.refl _ _).alloc (Nat.le_refl _) _⟩

def Same (w : World) (e : Ending) (w' : World) : Prop := e = .returned (.bool true) ∧ ∃ n, w' = w.drewN n

set_option maxRecDepth 100000 in
set_option maxHeartbeats 400000 in
theorem same17 (ba bb L : Nat) (f : Nat → Int) (w : World) (hL : L ≤ 1048576) (ha : Arr w ba L f) (hb : Arr w bb L f) :
    Calls Trym.prog 17 #[.slice (some ⟨ba, 0, none⟩) L L, .slice (some ⟨bb, 0, none⟩) L L] w fun e w' => Same w e w' := by
  have hl : ((L : Int) != (L : Int)) = false := by simp
  go_enter Trym.func17, Trym.ntmps17
  go_wp2
  go_loopw [5] (fun i wr => ∃ k : Nat, k ≤ L ∧ i = .int .i64 k ∧ ∃ n, wr = w.drewN n) (fun i _ => L - (intOf i).toNat)
  case atStart => exact ⟨0, Nat.zero_le _, rfl, 0, rfl⟩
  case round =>
    obtain ⟨k, hk, rfl, nd, rfl⟩ := hrel
    by_cases hlt : k < L
    · have c1 : w.cell? ⟨ba, k, none⟩ = some (.int .u64 (f k)) := ha.cell k hlt
      have c2 : w.cell? ⟨bb, k, none⟩ = some (.int .u64 (f k)) := hb.cell k hlt
      have hkl : (k : Int) < (L : Int) := by omega
      have hne : (f k != f k) = false := by simp
      go_wp2
      go_quiet (fail)
      go_wp2
      go_roundw
      case rel => exact ⟨k + 1, by omega, by go_num, _, rfl⟩
      case measure => simp [intOf]; omega
    · go_wp2
      go_ret
      exact ⟨rfl, _, rfl⟩

set_option maxRecDepth 100000 in
set_option maxHeartbeats 400000 in
theorem same17z (a b : Option Addr) (c c' : Nat) (w : World) :
    Calls Trym.prog 17 #[.slice a 0 c, .slice b 0 c'] w fun e w' => e = .returned (.bool true) ∧ w' = w := by
  go_enter Trym.func17, Trym.ntmps17
  go_wp2
  refine wp_loop_rounds 1 ?_
  rw [rounds_succ]
  go_wp2
  go_ret
  exact ⟨rfl, rfl⟩

end Go.Proofs.Qxb6608790aMods
