import Derived.Test.Qxb6608790aModsSmall
import Derived.Deep.Light
import Derived.Deep.RegionWith
namespace Go.Proofs.Qxb6608790aMods
open Go.ChangeShapes Go.WideShapes Go.ChangeAt Go.RowKit Go.Maps

/-- block b is a row that begins with the numbers f 0 .. f (n - 1) -/
def Row (w : World) (b n : Nat) (f : Nat → Int) : Prop := ∃ cur, w.heap[b]? = some (.cells cur 33 (0, 0)) ∧ ∀ i, i < n → cur[i]? = some (.int .u64 (f i))
theorem Row.lt {w : World} {b n : Nat} {f : Nat → Int} (h : Row w b n f) : b < w.heap.size := by obtain ⟨c, h, _⟩ := h; exact lt_of_block h
theorem Row.cell {w : World} {b n : Nat} {f : Nat → Int} (h : Row w b n f) (i : Nat) (hi : i < n) : w.cell? ⟨b, i, none⟩ = some (.int .u64 (f i)) := by
  obtain ⟨c, h, hc⟩ := h
  rw [cell_of_row w b i _ _ _ h]; exact hc i hi
theorem Row.free {w : World} {b n : Nat} {f : Nat → Int} (h : Row w b n f) (i : Nat) : w.frozen? ⟨b, i, none⟩ = false := by
  obtain ⟨c, h, hc⟩ := h
  exact frozen_of_row w b i _ _ h
theorem Row.set {w : World} {b n : Nat} {f : Nat → Int} (h : Row w b n f) (k : Nat) (v : Int) : Row (w.setCell ⟨b, k, none⟩ (.int .u64 v)) b n (fun i => if i = k then v else f i) := by
  obtain ⟨c, h, hc⟩ := h
  refine ⟨_, heap_setCell_same w b k _ _ _ h, fun i hi => ?_⟩
  by_cases e : k = i
  · subst e
    have := (Array.getElem?_eq_some_iff.1 (hc k hi)).1
    simp [this]
  · rw [Array.getElem?_setIfInBounds, if_neg e]
    show c[i]? = some (Value.int IntKind.u64 (if i = k then v else f i))
    rw [if_neg (fun h : i = k => e h.symm)]; exact hc i hi
theorem Row.of {w : World} {b n : Nat} {f : Nat → Int} (h : Arr w b n f) : Row w b n f := ⟨_, h, fun i hi => by simp [tab, hi]⟩
theorem Row.below {w w' : World} {b n B : Nat} {f : Nat → Int} (h : Row w b n f) (hb : Below B w w') (hB : b < B) : Row w' b n f := by
  obtain ⟨c, h, hc⟩ := h
  exact ⟨c, by rw [hb.block b hB]; exact h, hc⟩
theorem Row.chg {S : Nat → Prop} {w w' : World} {b n : Nat} {f : Nat → Int} (h : Row w b n f) (hc : Chg S w w') (hb : ¬ S b) : Row w' b n f := by
  have hl := h.lt
  obtain ⟨c, h, hcc⟩ := h
  exact ⟨c, by rw [hc.block b hl hb]; exact h, hcc⟩
theorem Row.congr {w : World} {b n : Nat} {f g : Nat → Int} (h : Row w b n f) (hfg : ∀ i, i < n → f i = g i) : Row w b n g := by
  obtain ⟨c, h, hc⟩ := h
  exact ⟨c, h, fun i hi => by rw [← hfg i hi]; exact hc i hi⟩

theorem Row.owned {w : World} {base n : Nat} {v : Value} {f : Nat → Int} (h : w.ownsRow base 33 1 v n ((tab n f).map (Value.int .u64))) (hp : 0 < n) : ∃ g cap, v = .slice (some ⟨g, 0, none⟩) n cap ∧ base ≤ g ∧ Row w g n f := by
  obtain ⟨hl, ⟨_, h1⟩ | ⟨g, cap, cur, hv, hg, hh, _, _, hs, ht⟩⟩ := h
  · omega
  · refine ⟨g, cap, hv, hg, cur, hh, fun i hi => ?_⟩
    have e := congrArg (fun l => l[i]?) ht
    simp only [List.getElem?_take] at e
    rw [if_pos (by omega)] at e
    simpa [tab, hi] using e

def Cloned (w : World) (n : Nat) (f : Nat → Int) (e : Ending) (w' : World) : Prop :=
  ∃ b c, e = .returned (.slice (some ⟨b, 0, none⟩) n c) ∧ w.heap.size ≤ b ∧ Row w' b n f ∧ Below w.heap.size w w'

set_option maxRecDepth 100000 in
set_option maxHeartbeats 800000 in
theorem clone25 (b l c : Nat) (f : Nat → Int) (hp : 0 < l) (hm : l ≤ 1048576) (w : World) (har : Row w b l f) :
    Calls Trym.prog 25 #[.slice (some ⟨b, 0, none⟩) l c] w fun e w' => Cloned w l f e w' := by
  obtain ⟨i0, hi, hz0, hz1, hz2⟩ := info_parts Trym.info33
  have hq := eqNil
  have hlb := har.lt
  have A : Hid (Row w b l f) := har
  clear har
  go_enter Trym.func25, Trym.ntmps25
  go_wp2_with (at_builtin; refine wpList_append_own _ rfl _ _ 22 rfl w.heap.size 33 i0 (.int .u64 0) 1 8 Trym.underlying22 hi hz0 hz1 hz2 rfl (by decide) _ _ _ rfl (World.ownsRow_made w #[] 0 (Nat.le_refl _) (Nat.zero_le _) rfl) ⟨b, 0, none⟩ l c ((tab l f).map (Value.int .u64)) rfl ?qc1 ?qc2 ?qc3 ?qc4 ?qc5 ?qc6 ?_)
  case qc1 => simp [tab]
  case qc2 =>
    intro j u hj
    have hjl : j < l := by
      have := (List.getElem?_eq_some_iff.1 hj).1
      simpa [tab] using this
    rw [show (⟨b, 0, none⟩ : Addr).add j = ⟨b, j, none⟩ from by unfold Addr.add; split <;> simp_all]
    rw [World.cell?_of_block (w := w) (Below.heap_alloc w _ b hlb), A.out.cell j hjl]
    simp [tab, hjl] at hj
    rw [hj]
  case qc3 => intro u hu; obtain ⟨x, _, rfl⟩ := List.mem_map.1 hu; rfl
  case qc4 => unfold maxLen; omega
  case qc5 => omega
  case qc6 => simp
  intro v' w1 hown hgrow hnil
  obtain ⟨g, cap, rfl, hg, hr⟩ := Row.owned hown hp
  have hb : Below w.heap.size w w1 := ((Below.refl _ w).alloc (Nat.le_refl _) _).grown hgrow (by simp) (by intro k hk; simp [Value.ownBlock] at hk; omega)
  clear hown hgrow hnil hi hz0 hz1 hz2
  go_wp2
  go_ret
  exact ⟨g, cap, rfl, hg, hr, hb⟩

def ClonedNone (w : World) (e : Ending) (w' : World) : Prop := ∃ ao c, e = .returned (.slice ao 0 c) ∧ Below w.heap.size w w'

set_option maxRecDepth 100000 in
set_option maxHeartbeats 800000 in
theorem clone25z (a : Option Addr) (c : Nat) (w : World) :
    Calls Trym.prog 25 #[.slice a 0 c] w fun e w' => ClonedNone w e w' := by
  obtain ⟨i0, hi, hz0, hz1, hz2⟩ := info_parts Trym.info33
  have hq := eqNil
  cases a with
  | none =>
    go_enter Trym.func25, Trym.ntmps25
    go_wp2
    go_ret
    exact ⟨_, _, rfl, Below.refl _ _⟩
  | some x =>
    go_enter Trym.func25, Trym.ntmps25
    go_wp2_with (at_builtin; refine wpList_append_own _ rfl _ _ 22 rfl w.heap.size 33 i0 (.int .u64 0) 1 8 Trym.underlying22 hi hz0 hz1 hz2 rfl (by decide) _ _ _ rfl (World.ownsRow_made w #[] 0 (Nat.le_refl _) (Nat.zero_le _) rfl) x 0 c [] rfl ?qc1 ?qc2 ?qc3 ?qc4 ?qc5 ?qc6 ?_)
    case qc1 => simp
    case qc2 => intro j u hj; simp at hj
    case qc3 => intro u hu; simp at hu
    case qc4 => unfold maxLen; omega
    case qc5 => omega
    case qc6 => simp
    intro v' w1 hown hgrow hnil
    have hb : Below w.heap.size w w1 := ((Below.refl _ w).alloc (Nat.le_refl _) _).grown hgrow (by simp) (by intro k hk; simp [Value.ownBlock] at hk; omega)
    obtain ⟨ao, cc, rfl⟩ : ∃ ao cc, v' = .slice ao 0 cc := by
      obtain ⟨_, ⟨h1, _⟩ | ⟨g, cap, cur, hv, _⟩⟩ := hown
      · exact ⟨_, _, h1⟩
      · exact ⟨_, _, hv⟩
    clear hown hgrow hnil hi hz0 hz1 hz2
    go_wp2
    go_ret
    exact ⟨_, _, rfl, hb⟩

/-- what Clone hands back: a new struct of the same size and count, whose words v are told by R -/
def Cloned11 (w : World) (a0 a1 : Int) (n : Nat) (f : Nat → Int) (e : Ending) (w' : World) : Prop :=
  ∃ bc g cap, e = .returned (.pointer (some ⟨bc, 0, none⟩)) ∧ w.heap.size ≤ bc ∧ bc < w'.heap.size ∧ w.heap.size ≤ g ∧ g ≠ bc ∧ w'.cell? ⟨bc, 0, none⟩ = some (.int .i64 a0) ∧ w'.cell? ⟨bc, 1, none⟩ = some (.int .i64 a1) ∧ w'.cell? ⟨bc, 2, none⟩ = some (.slice (some ⟨g, 0, none⟩) n cap) ∧ Row w' g n f ∧ Below w.heap.size w w' ∧ ∃ cc, w'.heap[bc]? = some (.cells cc 46 (0, 0))

theorem Cloned11.mk {w w1 : World} {a0 a1 : Int} {l g cap : Nat} {f : Nat → Int} (hb : Below w.heap.size w w1) (hg : w.heap.size ≤ g) (hr : Row w1 g l f) :
    Cloned11 w a0 a1 l f (.returned (.pointer (some ⟨w1.heap.size, 0, none⟩))) (w1.alloc (.cells #[.int .i64 a0, .int .i64 a1, .slice (some ⟨g, 0, none⟩) l cap] 46)) :=
  ⟨w1.heap.size, g, cap, rfl, hb.size, by simp, hg, by have := hr.lt; omega, by simp, by simp, by simp, hr.below ((Below.refl _ _).alloc (Nat.le_refl _) _) hr.lt, hb.alloc hb.size _, _, heap_alloc_new _ _⟩

set_option maxRecDepth 100000 in
set_option maxHeartbeats 1600000 in
theorem clone11 (be b l c : Nat) (a0 a1 : Int) (f : Nat → Int) (hp : 0 < l) (hm : l ≤ 1048576) (w : World) (har : Row w b l f)
    (e0 : w.cell? ⟨be, 0, none⟩ = some (.int .i64 a0)) (e1 : w.cell? ⟨be, 1, none⟩ = some (.int .i64 a1)) (e2 : w.cell? ⟨be, 2, none⟩ = some (.slice (some ⟨b, 0, none⟩) l c)) :
    Calls Trym.prog 11 #[.pointer (some ⟨be, 0, none⟩)] w fun e w' => Cloned11 w a0 a1 l f e w' := by
  have hbe : be < w.heap.size := block_lt_of_cell e0
  go_enter Trym.func11, Trym.ntmps11
  go_wp2_with fail
  go_region_with (go_at_call 25; refine (clone25 b l c f hp hm _ (by exact har)).mono ?_; rintro e w1 ⟨g, cap, rfl, hg, hr, hb⟩; have x0 : w1.cell? ⟨be, 0, none⟩ = some (.int .i64 a0) := (hb.cell (by exact hbe)).trans e0; have x1 : w1.cell? ⟨be, 1, none⟩ = some (.int .i64 a1) := (hb.cell (by exact hbe)).trans e1)
  all_goals
    go_wp2_with fail
    go_ret
    exact Cloned11.mk ⟨hb.os, hb.tape, hb.output, hb.size, hb.block⟩ hg hr

end Go.Proofs.Qxb6608790aMods
