import Derived.Test.Qxb6608790aModsSmall3
import Derived.RegionTactic
import Derived.BigRegion
namespace Go.Proofs.Qxb6608790aMods
open Go.ChangeShapes Go.WideShapes Go.ChangeAt Go.RowKit Go.Maps

theorem or_zero (v : Int) (h0 : 0 ≤ v) (h1 : v ≤ 18446744073709551615) : bits .or .u64 0 v = v := by
  obtain ⟨k, rfl⟩ := Int.eq_ofNat_of_zero_le h0
  have := bits_or_u64_nat 0 k (by omega) (by omega)
  simpa using this

theorem Chg.drew {S : Nat → Prop} {a w : World} (h : Chg S a w) : Chg S a w.drew := ⟨h.os, h.tape, h.output, h.size, h.block⟩

def Uniting (w : World) (g L : Nat) (f : Nat → Int) (k : Nat) (wr : World) : Prop :=
  Arr wr g L (fun i => if i < k then f i else 0) ∧ Chg (fun b => b = g) w wr
theorem Uniting.step {w wr : World} {g L k : Nat} {f : Nat → Int} (h : Uniting w g L f k wr) : Uniting w g L f (k + 1) (wr.setCell ⟨g, k, none⟩ (.int .u64 (f k))).drew := by
  refine ⟨(h.1.set k (f k)).congr fun i _ => ?_, (Chg.setCell h.2 rfl _).drew⟩
  by_cases e : i = k
  · subst e; simp
  · rw [if_neg e]
    by_cases c : i < k
    · rw [if_pos c, if_pos (by omega)]
    · rw [if_neg c, if_neg (by omega)]

def United (w : World) (g L : Nat) (f : Nat → Int) (e : Ending) (w' : World) : Prop := e = .returned (.tuple #[]) ∧ Arr w' g L f ∧ Chg (fun b => b = g) w w'

set_option maxRecDepth 100000 in
set_option maxHeartbeats 1600000 in
theorem union13 (bx be g b L c : Nat) (f : Nat → Int) (w : World) (hL : L ≤ 1048576) (ha : Arr w g L (fun _ => 0)) (hr : Row w b L f) (hf : ∀ i, i < L → 0 ≤ f i ∧ f i ≤ 18446744073709551615)
    (x2 : w.cell? ⟨bx, 2, none⟩ = some (.slice (some ⟨g, 0, none⟩) L L)) (e2 : w.cell? ⟨be, 2, none⟩ = some (.slice (some ⟨b, 0, none⟩) L c)) (d1 : bx ≠ g) (d2 : be ≠ g) (d3 : b ≠ g) :
    Calls Trym.prog 13 #[.pointer (some ⟨bx, 0, none⟩), .pointer (some ⟨be, 0, none⟩)] w fun e w' => United w g L f e w' := by
  go_enter Trym.func13, Trym.ntmps13
  go_wp2
  go_loopw [10] (fun i wr => ∃ k : Nat, k ≤ L ∧ i = .int .i64 k ∧ Uniting w g L f k wr) (fun i _ => L - (intOf i).toNat)
  case atStart => exact ⟨0, Nat.zero_le _, rfl, ha.congr (by simp), Chg.refl _ _⟩
  case round =>
    obtain ⟨k, hk, rfl, hu⟩ := hrel
    by_cases hlt : k < L
    · have y2 := hu.2.cell x2 d1
      have f2 := hu.2.cell e2 d2
      have c1 : wr.cell? ⟨g, k, none⟩ = some (.int .u64 0) := by
        have := hu.1.cell k hlt
        rwa [if_neg (by omega)] at this
      have c2 : wr.cell? ⟨b, k, none⟩ = some (.int .u64 (f k)) := (hr.chg hu.2 d3).cell k hlt
      have c3 := hu.1.free k
      have hkl : (k : Int) < (L : Int) := by omega
      have ho := or_zero (f k) (hf k hlt).1 (hf k hlt).2
      have R := hu.step
      clear x2 e2
      go_wp2
      go_region
      go_wp2
      go_roundw
      case rel => exact ⟨k + 1, by omega, by go_num, R⟩
      case measure => simp [intOf]; omega
    · obtain rfl : L = k := by omega
      have R : Arr wr g L f := hu.1.congr (fun i hi => by rw [if_pos hi])
      go_wp2
      go_end0
      exact ⟨rfl, R, hu.2⟩

set_option maxRecDepth 100000 in
set_option maxHeartbeats 400000 in
theorem union13z (bx be : Nat) (a : Option Addr) (c : Nat) (w : World)
    (x2 : w.cell? ⟨bx, 2, none⟩ = some (.slice a 0 c)) :
    Calls Trym.prog 13 #[.pointer (some ⟨bx, 0, none⟩), .pointer (some ⟨be, 0, none⟩)] w fun e w' => e = .returned (.tuple #[]) ∧ w' = w := by
  go_enter Trym.func13, Trym.ntmps13
  go_wp2
  refine wp_loop_rounds 1 ?_
  rw [rounds_succ]
  go_wp2
  go_end0
  exact ⟨rfl, rfl⟩

/-- the three sets and the copy as they lie -/
structure Tri (w v : World) (a0 a1 : Int) (L be bw bt bc g cap bx gx : Nat) (f0 fg : Nat → Int) : Prop where
  e0 : v.cell? ⟨be, 0, none⟩ = some (.int .i64 a0)
  e1 : v.cell? ⟨be, 1, none⟩ = some (.int .i64 a1)
  e2 : v.cell? ⟨be, 2, none⟩ = some (.slice (some ⟨bw, 0, none⟩) L L)
  c0 : v.cell? ⟨bc, 0, none⟩ = some (.int .i64 a0)
  c1 : v.cell? ⟨bc, 1, none⟩ = some (.int .i64 a1)
  c2 : v.cell? ⟨bc, 2, none⟩ = some (.slice (some ⟨g, 0, none⟩) L cap)
  x0 : v.cell? ⟨bx, 0, none⟩ = some (.int .i64 a0)
  x1 : v.cell? ⟨bx, 1, none⟩ = some (.int .i64 a1)
  x2 : v.cell? ⟨bx, 2, none⟩ = some (.slice (some ⟨gx, 0, none⟩) L L)
  rw : Row v bw L f0
  rt : Row v bt L f0
  rg : Row v g L fg
  rx : Row v gx L f0
  bel : Below w.heap.size w v

structure Far (w : World) (be bw bt bc g bx gx : Nat) : Prop where
  d1 : be ≠ g
  d2 : bc ≠ g
  d3 : bx ≠ g
  d4 : bw ≠ g
  d5 : bt ≠ g
  d6 : gx ≠ g
  d7 : w.heap.size ≤ g

theorem Tri.drewN {w v : World} {a0 a1 : Int} {L be bw bt bc g cap bx gx : Nat} {f0 fg : Nat → Int} (h : Tri w v a0 a1 L be bw bt bc g cap bx gx f0 fg) (q : Nat) : Tri w (v.drewN q) a0 a1 L be bw bt bc g cap bx gx f0 fg :=
  { h with bel := ⟨h.bel.os, h.bel.tape, h.bel.output, h.bel.size, h.bel.block⟩ }
theorem Tri.store {w v : World} {a0 a1 : Int} {L be bw bt bc g cap bx gx : Nat} {f0 fg : Nat → Int} (h : Tri w v a0 a1 L be bw bt bc g cap bx gx f0 fg) (p : Far w be bw bt bc g bx gx) (k : Nat) (u : Int) : Tri w (v.setCell ⟨g, k, none⟩ (.int .u64 u)) a0 a1 L be bw bt bc g cap bx gx f0 (fun i => if i = k then u else fg i) := by
  have hc : Chg (fun b => b = g) v (v.setCell ⟨g, k, none⟩ (.int .u64 u)) := Chg.setCell (S := fun b => b = g) (Chg.refl _ _) rfl _
  exact { e0 := hc.cell h.e0 p.d1, e1 := hc.cell h.e1 p.d1, e2 := hc.cell h.e2 p.d1, c0 := hc.cell h.c0 p.d2, c1 := hc.cell h.c1 p.d2, c2 := hc.cell h.c2 p.d2, x0 := hc.cell h.x0 p.d3, x1 := hc.cell h.x1 p.d3, x2 := hc.cell h.x2 p.d3, rw := h.rw.chg hc p.d4, rt := h.rt.chg hc p.d5, rg := h.rg.set k u, rx := h.rx.chg hc p.d6, bel := h.bel.trans (hc.below h.bel.size (fun b hb => by have := p.d7; omega)) }

end Go.Proofs.Qxb6608790aMods
