import Derived.Test.Qxb6608790aModsClone
namespace Go.Proofs.Qxb6608790aMods
open Go.ChangeShapes Go.WideShapes Go.ChangeAt Go.RowKit Go.Maps

def Cloned11z (w : World) (a0 a1 : Int) (e : Ending) (w' : World) : Prop :=
  ∃ bc ao cap, e = .returned (.pointer (some ⟨bc, 0, none⟩)) ∧ w.heap.size ≤ bc ∧ bc < w'.heap.size ∧ w'.cell? ⟨bc, 0, none⟩ = some (.int .i64 a0) ∧ w'.cell? ⟨bc, 1, none⟩ = some (.int .i64 a1) ∧ w'.cell? ⟨bc, 2, none⟩ = some (.slice ao 0 cap) ∧ Below w.heap.size w w' ∧ ∃ cc, w'.heap[bc]? = some (.cells cc 46 (0, 0))
theorem Cloned11z.mk {w w1 : World} {a0 a1 : Int} {ao : Option Addr} {cap : Nat} (hb : Below w.heap.size w w1) :
    Cloned11z w a0 a1 (.returned (.pointer (some ⟨w1.heap.size, 0, none⟩))) (w1.alloc (.cells #[.int .i64 a0, .int .i64 a1, .slice ao 0 cap] 46)) :=
  ⟨w1.heap.size, ao, cap, rfl, hb.size, by simp, by simp, by simp, by simp, hb.alloc hb.size _, _, heap_alloc_new _ _⟩

set_option maxRecDepth 100000 in
set_option maxHeartbeats 1600000 in
theorem clone11z (be c : Nat) (a : Option Addr) (a0 a1 : Int) (w : World)
    (e0 : w.cell? ⟨be, 0, none⟩ = some (.int .i64 a0)) (e1 : w.cell? ⟨be, 1, none⟩ = some (.int .i64 a1)) (e2 : w.cell? ⟨be, 2, none⟩ = some (.slice a 0 c)) :
    Calls Trym.prog 11 #[.pointer (some ⟨be, 0, none⟩)] w fun e w' => Cloned11z w a0 a1 e w' := by
  have hbe : be < w.heap.size := block_lt_of_cell e0
  go_enter Trym.func11, Trym.ntmps11
  go_wp2_with fail
  go_region_with (go_at_call 25; refine (clone25z a c _).mono ?_; rintro e w1 ⟨ao, cap, rfl, hb⟩; have x0 : w1.cell? ⟨be, 0, none⟩ = some (.int .i64 a0) := (hb.cell (by exact hbe)).trans e0; have x1 : w1.cell? ⟨be, 1, none⟩ = some (.int .i64 a1) := (hb.cell (by exact hbe)).trans e1)
  all_goals
    go_wp2_with fail
    go_ret
    exact Cloned11z.mk ⟨hb.os, hb.tape, hb.output, hb.size, hb.block⟩
end Go.Proofs.Qxb6608790aMods
