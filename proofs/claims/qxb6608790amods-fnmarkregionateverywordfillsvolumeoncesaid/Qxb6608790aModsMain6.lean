import Derived.Test.Qxb6608790aModsSmall
import Derived.Test.Qxb6608790aModsMark
import Derived.Deep.Light
namespace Go.Proofs.Qxb6608790aMods
open Go.ChangeShapes Go.WideShapes Go.ChangeAt Go.RowKit Go.Maps


/-- word j of the set of the first i extents -/
theorem full_zero (j : Nat) : full 0 j = 0 := by simp [full]
theorem full_other (i j : Nat) (h : j ≠ i / 64) : full (i + 1) j = full i j := by
  unfold full
  rw [show min 64 (i + 1 - 64 * j) = min 64 (i - 64 * j) from by omega]
theorem or_pow (e : Nat) : (2 ^ e - 1) ||| 2 ^ e = 2 ^ (e + 1) - 1 := by
  apply Nat.eq_of_testBit_eq
  intro i
  rw [Nat.testBit_or, Nat.testBit_two_pow_sub_one, Nat.testBit_two_pow_sub_one, Nat.testBit_two_pow]
  rw [Bool.eq_iff_iff]; simp; omega
theorem full_bit (i : Nat) : bits .or .u64 (full i (i / 64)) (IntKind.u64.wrap (2 ^ (i % 64))) = full (i + 1) (i / 64) := by
  have hm : i % 64 < 64 := Nat.mod_lt _ (by omega)
  have hp := pow_bd (i % 64) hm
  rw [IntWalk.u64_in _ (by omega)]
  unfold full
  rw [show min 64 (i - 64 * (i / 64)) = i % 64 from by omega, show min 64 (i + 1 - 64 * (i / 64)) = i % 64 + 1 from by omega]
  have h1 := Nat.one_le_two_pow (n := i % 64)
  have h3 : (2 : Int) ^ (i % 64) = ((2 ^ (i % 64) : Nat) : Int) := by simp
  have h4 : (2 : Int) ^ (i % 64 + 1) - 1 = ((2 ^ (i % 64 + 1) - 1 : Nat) : Int) := by
    rw [Nat.pow_succ, Int.pow_succ, h3]; omega
  rw [h4, ← or_pow]
  rw [h3] at hp ⊢
  rw [show ((2 ^ (i % 64) : Nat) : Int) - 1 = ((2 ^ (i % 64) - 1 : Nat) : Int) from by omega]
  exact bits_or_u64_nat _ _ (by omega) (by omega)

theorem Arr.at {w : World} {b n : Nat} {f : Nat → Int} (h : Arr w b n f) (i : Nat) (hi : i < n) : w.cell? ((⟨b, 0, none⟩ : Addr).add i) = some (.int .u64 (f i)) := by
  have : (⟨b, 0, none⟩ : Addr).add i = ⟨b, i, none⟩ := by
    unfold Addr.add; split
    · subst_vars; rfl
    · simp
  rw [this]; exact h.cell i hi

/-- the filling loop after i rounds -/
def Filling (w : World) (bf L i : Nat) (wr : World) : Prop := Arr wr bf L (full i) ∧ Chg (fun b => b = bf) w wr
theorem Filling.step {w wr : World} {bf L i : Nat} (h : Filling w bf L i wr) : Filling w bf L (i + 1) (wr.setCell ⟨bf, i / 64, none⟩ (.int .u64 (full (i + 1) (i / 64)))) :=
  ⟨(h.1.set (i / 64) _).congr fun j _ => by
    by_cases e : j = i / 64
    · subst e; rw [if_pos rfl]
    · rw [if_neg e, full_other i j e], Chg.setCell h.2 rfl _⟩

/-- the marks after the first k of the given ones -/
def upto (d : Nat → Bool) (k : Nat) : Nat → Bool := fun i => decide (i < k) && d i
def Marking (w : World) (bm L : Nat) (d : Nat → Bool) (k : Nat) (wr : World) : Prop := Marks wr bm L (upto d k) ∧ Chg (fun b => b = bm) w wr
theorem Marks.congr {w : World} {bm n : Nat} {m m' : Nat → Bool} (h : Marks w bm n m) (hm : ∀ i, i < n → m i = m' i) : Marks w bm n m' := by
  obtain ⟨D, h1, h2, h3⟩ := h
  exact ⟨D, h1, fun j hj => by rw [← hm j hj]; exact h2 j hj, by rw [h3]; exact cnt_congr n hm⟩
theorem Marking.stepYes {w wr w1 : World} {bm L k : Nat} {d : Nat → Bool} (h : Marking w bm L d k wr) (hd : d k = true) (hm : Marks w1 bm L (mark (upto d k) k)) (hg : wr.grownBy w1 (some bm)) : Marking w bm L d (k + 1) w1 := by
  refine ⟨hm.congr fun i _ => ?_, h.2.grown hg (fun k e => (Option.some.inj e).symm)⟩
  unfold mark upto
  by_cases e : i = k
  · subst e; simp [hd]
  · rw [if_neg e]
    by_cases c : i < k
    · simp [c, show i < k + 1 from by omega]
    · simp [c, show ¬ i < k + 1 from by omega]
theorem Marking.stepNo {w wr : World} {bm L k : Nat} {d : Nat → Bool} (h : Marking w bm L d k wr) (hd : d k = false) : Marking w bm L d (k + 1) wr := by
  refine ⟨h.1.congr fun i _ => ?_, h.2⟩
  unfold upto
  by_cases e : i = k
  · subst e; simp [hd]
  · by_cases c : i < k
    · simp [c, show i < k + 1 from by omega]
    · simp [c, show ¬ i < k + 1 from by omega]

/-- what stays as it is while the passes go -/
structure Base (w wr : World) (y : Addr) (L bo bf n : Nat) (f0 : Nat → Int) (d : Nat → Bool) : Prop where
  dc : ∀ i, i < L → wr.cell? (y.add i) = some (.bool (d i))
  ao : Arr wr bo L f0
  af : Arr wr bf L (full n)
  be : Below w.heap.size w wr

def want (n : Nat) (f0 : Nat → Int) (d : Nat → Bool) (j : Nat) : Bool := d j || f0 j != full n j

/-- the pass after k words: each word is as it was, or it is full and marked as it must be; the first k are full -/
def St (w : World) (y : Addr) (L bo bf n : Nat) (f0 : Nat → Int) (d : Nat → Bool) (bc be bw bm k : Nat) (wr : World) : Prop :=
  ∃ f m, Base w wr y L bo bf n f0 d ∧ Vol wr bc be bw bm L n f m ∧ (∀ j, j < L → (f j = f0 j ∧ m j = d j) ∨ (f j = full n j ∧ m j = want n f0 d j)) ∧ ∀ j, j < k → f j = full n j ∧ m j = want n f0 d j

/-- the blocks lie apart -/
structure Apart (w : World) (y : Addr) (bo bf bw bm : Nat) : Prop where
  p1 : bo ≠ bw
  p2 : bo ≠ bm
  p3 : bf ≠ bw
  p4 : bf ≠ bm
  p5 : y.block < w.heap.size
  p6 : w.heap.size ≤ bw
  p7 : w.heap.size ≤ bm

theorem Base.chg {w wr w' : World} {y : Addr} {L bo bf n : Nat} {f0 : Nat → Int} {d : Nat → Bool} {bw bm : Nat} (h : Base w wr y L bo bf n f0 d) (p : Apart w y bo bf bw bm) (hc : Chg (fun b => b = bw ∨ b = bm) wr w') : Base w w' y L bo bf n f0 d where
  dc := fun i hi => hc.cell (h.dc i hi) (by rw [add_block]; have := p.p5; have := p.p6; have := p.p7; omega)
  ao := h.ao.chg hc (by have := p.p1; have := p.p2; omega)
  af := h.af.chg hc (by have := p.p3; have := p.p4; omega)
  be := h.be.trans (hc.below h.be.size (fun k hk => by have := p.p6; have := p.p7; omega))

theorem St.step {w wr w' : World} {y : Addr} {L bo bf n : Nat} {f0 f : Nat → Int} {d m : Nat → Bool} {bc be bw bm k : Nat} {e : Ending} (p : Apart w y bo bf bw bm) (hk : k < L) (hB : Base w wr y L bo bf n f0 d)
    (hI : ∀ j, j < L → (f j = f0 j ∧ m j = d j) ∨ (f j = full n j ∧ m j = want n f0 d j)) (hD : ∀ j, j < k → f j = full n j ∧ m j = want n f0 d j) (hR : Regioned wr bc be bw bm L n k f m e w') : St w y L bo bf n f0 d bc be bw bm (k + 1) w' := by
  obtain ⟨_, hv, hc⟩ := hR
  have key : ∀ j, j < L → (k - k % 16 ≤ j ∧ j < min (k - k % 16 + 16) L) → fReg n (k - k % 16) (min (k - k % 16 + 16) L) f j = full n j ∧ mReg n (k - k % 16) (min (k - k % 16 + 16) L) f m j = want n f0 d j := by
    intro j hj hr
    unfold fReg mReg
    rw [if_pos hr, if_pos hr]
    refine ⟨rfl, ?_⟩
    rcases hI j hj with ⟨h1, h2⟩ | ⟨h1, h2⟩
    · rw [h1, h2]; rfl
    · rw [h1, h2]; simp
  have out : ∀ j, ¬ (k - k % 16 ≤ j ∧ j < min (k - k % 16 + 16) L) → fReg n (k - k % 16) (min (k - k % 16 + 16) L) f j = f j ∧ mReg n (k - k % 16) (min (k - k % 16 + 16) L) f m j = m j := by
    intro j hr
    unfold fReg mReg
    rw [if_neg hr, if_neg hr]
    exact ⟨rfl, rfl⟩
  refine ⟨_, _, hB.chg p hc, hv, fun j hj => ?_, fun j hj => ?_⟩
  · by_cases hr : k - k % 16 ≤ j ∧ j < min (k - k % 16 + 16) L
    · exact .inr (key j hj hr)
    · rw [(out j hr).1, (out j hr).2]; exact hI j hj
  · by_cases hr : k - k % 16 ≤ j ∧ j < min (k - k % 16 + 16) L
    · exact key j (by omega) hr
    · rw [(out j hr).1, (out j hr).2]; exact hD j (by omega)

theorem Chg.drewN (S : Nat → Prop) (w : World) (n : Nat) : Chg S w (w.drewN n) := ⟨rfl, rfl, rfl, Nat.le_refl _, fun _ _ _ => rfl⟩
theorem Vol.drewN {w : World} {bc be bw bm L : Nat} {N : Int} {f : Nat → Int} {m : Nat → Bool} (h : Vol w bc be bw bm L N f m) (q : Nat) : Vol (w.drewN q) bc be bw bm L N f m := { h with }
theorem Base.drewN {w wr : World} {y : Addr} {L bo bf n : Nat} {f0 : Nat → Int} {d : Nat → Bool} (h : Base w wr y L bo bf n f0 d) (q : Nat) : Base w (wr.drewN q) y L bo bf n f0 d where
  dc := h.dc
  ao := h.ao
  af := h.af
  be := ⟨h.be.os, h.be.tape, h.be.output, h.be.size, h.be.block⟩

set_option maxHeartbeats 400000 in
theorem mark21 (bc be bw bm L n k : Nat) (f : Nat → Int) (m : Nat → Bool) (w : World) (hv : Vol w bc be bw bm L n f m) (hk : k < L) (hL : L ≤ 65536) (hn0 : 64 * (L - 1) < n) (hn1 : n ≤ 64 * L) :
    Calls Trym.prog 21 #[.pointer (some ⟨bc, 0, none⟩), .int .i64 (k : Int)] w fun e w' => Regioned w bc be bw bm L n k f m e w' := by
  go_enter Trym.func21, Trym.ntmps21
  go_wp2_with fail
  refine (mark26 bc be bw bm L n k f m _ hv hk hL hn0 hn1).mono ?_
  rintro e w' ⟨rfl, hR⟩
  go_wp2_with fail
  go_end0
  exact ⟨rfl, hR⟩

set_option maxRecDepth 100000 in
set_option maxHeartbeats 1600000 in
theorem main6 (a0 : Int) (n : Nat) (x y : Addr) (L c2 c3 : Nat) (f0 : Nat → Int) (d : Nat → Bool) (z2 : List Int) (w : World) (w0 : (Lit.int .i64 a0).wf = true) (w1 : (Lit.int .i64 (n : Int)).wf = true)
    (hrow : IsRow .u64 w (some x) L c2 z2) (hp : 0 < L) (hL : L ≤ 65536)
    (hx : ∀ i, i < L → w.cell? (x.add i) = some (.int .u64 (f0 i))) (hy : ∀ i, i < L → w.cell? (y.add i) = some (.bool (d i)))  :
    Calls Trym.prog 6 #[.int .i64 a0, .int .i64 n, .slice (some x) L c2, .slice (some y) L c3] w fun e w' => e = .returned (.bool true) ∧ Below w.heap.size w w' := by
  have hLL : ((L : Int) != (L : Int)) = false := by simp
  go_enter Trym.func6, Trym.ntmps6
  go_wp2_with fail
  refine (bytes24 _ _ _ _ _ _ _ _ (by unfold maxLen; omega) (by unfold maxLen; omega) _).mono ?_
  rintro e w ⟨⟨r, rfl⟩, rfl⟩
  cases r
  · go_wp2_with fail
    go_ret
    exact ⟨rfl, Below.refl _ _⟩
  · go_wp2_with fail
    refine (reach8 _ _ _ _ _ _ _ w0 w1 hrow).mono ?_
    rintro e w ⟨⟨r, rfl, hfit⟩, rfl⟩
    cases r
    · clear hfit
      go_wp2_with fail
      go_ret
      exact ⟨rfl, Below.refl _ _⟩
    · have hfit := hfit rfl
      obtain ⟨hf0, hf1, hf2, hf3⟩ := hfit
      have hn : n ≤ 4194304 := by omega
      have hn0 : 64 * (L - 1) < n := by omega
      have hn1 : n ≤ 64 * L := by omega
      clear hf0 hf1 hf2 hf3 hrow w0 w1
      obtain ⟨i0, hi, hz0, hz1, hz2⟩ := info_parts Trym.info33
      go_wp2_with fail
      refine (copy9 x L c2 f0 hp (by omega) _ hx).mono ?_
      rintro e v1 ⟨bw, rfl, hbw, har1, hbe1⟩
      go_wp2_with fail
      refine (copy9 ⟨bw, 0, none⟩ L L f0 hp (by omega) _ (fun i hi => har1.at i hi)).mono ?_
      rintro e v2 ⟨bo, rfl, hbo, har2, hbe2⟩
      have hlt1 := har1.lt
      have har1 := har1.below hbe2 hlt1
      have hbe := hbe1.trans (hbe2.mono hbe1.size)
      have hbo' : w.heap.size ≤ bo := Nat.le_trans hbe1.size hbo
      have hdo : bw ≠ bo := by omega
      clear hbe1 hbe2 hlt1 hbo
      go_wp2_with (at_make; refine wpList_make_full _ rfl (.tmp 49) (.tmp 49) 22 rfl w.heap.size 33 i0 (.int .u64 0) 1 Trym.underlying22 hi hz0 hz1 .i64 .i64 _ _ L rfl rfl rfl rfl (by rw [hz2]; omega) (by unfold maxLen; omega) hbe.size ?_; intro v3 hown hgrow)
      have hF0 : Filling v3 v2.heap.size L 0 v3 := ⟨(Arr.made hown).congr (fun j _ => (full_zero j).symm), Chg.refl _ _⟩
      have hbf1 := har1.lt
      have hbf2 := har2.lt
      have har1 := har1.below ((Below.refl _ _).grown hgrow (Nat.le_refl _) (by simp)) hbf1
      have har2 := har2.below ((Below.refl _ _).grown hgrow (Nat.le_refl _) (by simp)) hbf2
      have hbf0 := hbe.size
      have hbe := hbe.grown hgrow hbe.size (by simp)
      clear hown hgrow hi hz0 hz1 hz2
      generalize v2.heap.size = bf at *
      go_loopw [11] (fun i wr => ∃ k : Nat, k ≤ n ∧ i = .int .i64 k ∧ Filling v3 bf L k wr) (fun i _ => n - (intOf i).toNat)
      case atStart => exact ⟨0, Nat.zero_le _, rfl, hF0⟩
      case round =>
        obtain ⟨k, hk, rfl, hrl⟩ := hrel
        clear hF0
        by_cases hlt : k < n
        · have hc1 := hrl.1.cell (k / 64) (by omega)
          have hc2 := hrl.1.free (k / 64)
          have R := hrl.step
          rw [← full_bit] at R
          go_wp2_with fail
          go_roundw
          case rel => exact ⟨k + 1, by omega, by go_num, R⟩
          case measure => simp [intOf]; omega
        · obtain rfl : n = k := by omega
          obtain ⟨v4, rfl⟩ : ∃ v, v = wr := ⟨_, rfl⟩
          obtain ⟨har3, hchg⟩ := hrl
          have har1 := har1.chg hchg (by omega)
          have har2 := har2.chg hchg (by omega)
          have hbf3 := har3.lt
          have hbe := hbe.trans (hchg.below (by have := hbe.size; omega) (fun b e => by omega))
          clear hchg
          have hyb : y.block < w.heap.size := by
            have := block_lt_of_cell (hy 0 hp); rwa [add_block] at this
          have hy4 : ∀ i, i < L → v4.cell? (y.add i) = some (.bool (d i)) := fun i hi => (hbe.cell (by rw [add_block]; exact hyb)).trans (hy i hi)
          clear hx hy
          have hmm := @run_makeMap Trym.prog
          have hM0 : Marking (v4.alloc (.map #[] 0)) v4.heap.size L d 0 (v4.alloc (.map #[] 0)) := ⟨(Marks.made v4 L).congr (fun i _ => by simp [upto]), Chg.refl _ _⟩
          have hws := hbe.size
          have hy5 : ∀ i, i < L → (v4.alloc (.map #[] 0)).cell? (y.add i) = some (.bool (d i)) := fun i hi => ((((Below.refl _ _).alloc (Nat.le_refl _) _)).cell (by rw [add_block]; omega)).trans (hy4 i hi)
          go_wp2_with fail
          go_loopw [13] (fun i wq => ∃ j : Nat, j ≤ L ∧ i = .int .i64 j ∧ Marking (v4.alloc (.map #[] 0)) v4.heap.size L d j wq) (fun i _ => L - (intOf i).toNat)
          case atStart => exact ⟨0, Nat.zero_le _, rfl, hM0⟩
          case round =>
            obtain ⟨j, hj, rfl, hrl⟩ := hrel
            by_cases hlt2 : j < L
            · have hc1 : wr.cell? (y.add j) = some (.bool (d j)) := hrl.2.cell (hy5 j hlt2) (by rw [add_block]; omega)
              have hjl : (j : Int) < (L : Int) := by omega
              clear hM0 hy4 hy5
              by_cases hd : d j = true
              · rw [hd] at hc1
                have HD : Hid (d j = true) := hd
                clear hd
                go_wp2_with (at_mapUpdate; refine wpList_mark rfl (.tmp 78) (.tmp 79) _ rfl v4.heap.size L _ _ j rfl hrl.1 (by omega) rfl rfl rfl hlt2 ?_; intro w1 hm1 hg1)
                have R := hrl.stepYes HD.out hm1 hg1
                clear hm1 hg1
                go_wp2_with fail
                go_roundw
                case rel => exact ⟨j + 1, by omega, by go_num, R⟩
                case measure => simp [intOf]; omega
              · have hd : d j = false := by simpa using hd
                rw [hd] at hc1
                have R := hrl.stepNo hd
                clear hd
                go_wp2_with fail
                go_roundw
                case rel => exact ⟨j + 1, by omega, by go_num, R⟩
                case measure => simp [intOf]; omega
            · obtain rfl : L = j := by omega
              obtain ⟨v6, rfl⟩ : ∃ v, v = wr := ⟨_, rfl⟩
              obtain ⟨hmk, hchg⟩ := hrl
              have hbm := hmk.lt
              have hmk : Marks v6 v4.heap.size L d := hmk.congr (fun i hi => by simp [upto, hi])
              have ha1 : Arr v6 bw L f0 := (har1.alloc (.map #[] 0)).chg hchg (by omega)
              have ha2 : Arr v6 bo L f0 := (har2.alloc (.map #[] 0)).chg hchg (by omega)
              have ha3 : Arr v6 bf L (full n) := (har3.alloc (.map #[] 0)).chg hchg (by omega)
              have hb6 : Below w.heap.size w v6 := (hbe.alloc hws (.map #[] 0)).trans (hchg.below (by simp; omega) (fun b e => by omega))
              have hy6 : ∀ i, i < L → v6.cell? (y.add i) = some (.bool (d i)) := fun i hi => hchg.cell (hy5 i hi) (by rw [add_block]; omega)
              have hbf4 : bf < v4.heap.size := hbf3
              clear hchg hM0 hy4 hy5 har1 har2 har3 hbe hmm hj hlt2 hbf3
              generalize v4.heap.size = bm at *
              go_wp2_with fail
              refine (new10 _ _ _ _ _ _).mono ?_
              rintro e v7 ⟨rfl, hv7⟩
              have h7 : Below v6.heap.size v6 v7 := by rw [hv7]; exact (Below.refl _ _).alloc (Nat.le_refl _) _
              have hs7 : v7.heap.size = v6.heap.size + 1 := by rw [hv7]; simp
              have e71 : v7.cell? ⟨v6.heap.size, 1, none⟩ = some (.int .i64 n) := by rw [hv7]; simp
              have e72 : v7.cell? ⟨v6.heap.size, 2, none⟩ = some (.slice (some ⟨bw, 0, none⟩) L L) := by rw [hv7]; simp
              clear hv7
              go_wp2_with fail
              refine (new20 _ _ _).mono ?_
              rintro e v8 ⟨rfl, hs8, c29, c30, h8⟩
              have h68 : Below v6.heap.size v6 v8 := h7.trans (h8.mono (by omega))
              have l1 := ha1.lt
              have l2 := ha2.lt
              have l3 := ha3.lt
              have hB : Base w v8 y L bo bf n f0 d := ⟨fun i hi => (h68.cell (by have := hb6.size; rw [add_block]; omega)).trans (hy6 i hi), ha2.below h68 l2, ha3.below h68 l3, hb6.trans (h68.mono hb6.size)⟩
              have hV : Vol v8 v7.heap.size v6.heap.size bw bm L n f0 d := ⟨c29, c30, (h8.cell (by simp; omega)).trans e71, (h8.cell (by simp; omega)).trans e72, ha1.below h68 l1, hmk.same (h68.block bm hbm), by omega, by omega, by omega, by omega, by omega⟩
              have hA : Apart w y bo bf bw bm := ⟨by omega, by omega, by omega, by omega, hyb, hbw, by omega⟩
              have hS0 : St w y L bo bf n f0 d v7.heap.size v6.heap.size bw bm 0 v8 := ⟨f0, d, hB, hV, fun j _ => .inl ⟨rfl, rfl⟩, fun j hj => absurd hj (by omega)⟩
              clear c29 c30 e71 e72 hB hV h68 h7 h8 hs7 hs8 ha1 ha2 ha3 l1 l2 l3 hb6 hy6 hmk hbm
              generalize v7.heap.size = bc at *
              generalize v6.heap.size = be at *
              go_wp2_with fail
              go_loopw [15] (fun i wr => ∃ p : Nat, p ≤ 2 ∧ i = .int .i64 p ∧ St w y L bo bf n f0 d bc be bw bm 0 wr) (fun i _ => 2 - (intOf i).toNat)
              case atStart => exact ⟨0, by omega, rfl, hS0⟩
              case round =>
                obtain ⟨p, hp2, rfl, hSt⟩ := hrel
                obtain ⟨v9, rfl⟩ : ∃ v, v = wr := ⟨_, rfl⟩
                clear hS0
                by_cases hlp : p < 2
                · have hlpd : decide ((p : Int) < 2) = true := by simp; omega
                  go_wp2_with fail
                  go_loopw [16] (fun i wr => ∃ k : Nat, k ≤ L ∧ i = .int .i64 k ∧ St w y L bo bf n f0 d bc be bw bm k wr) (fun i _ => L - (intOf i).toNat)
                  case atStart => exact ⟨0, by omega, rfl, hSt⟩
                  case round =>
                    obtain ⟨k, hk2, rfl, hSk⟩ := hrel
                    obtain ⟨vk, rfl⟩ : ∃ v, v = wr := ⟨_, rfl⟩
                    clear hSt
                    obtain ⟨f, m, hB, hV, hI, hD⟩ := hSk
                    by_cases hlk : k < L
                    · go_wp2_with fail
                      refine (mark21 bc be bw bm L n k f m _ hV hlk hL hn0 hn1).mono ?_
                      rintro e vn ⟨rfl, hR⟩
                      have R := St.step (e := .returned (.tuple #[])) hA hlk hB hI hD ⟨rfl, hR⟩
                      clear hB hV hI hD hR
                      go_wp2_with fail
                      go_roundw
                      case rel => exact ⟨k + 1, by omega, by go_num, R⟩
                      case measure => simp [intOf]; omega
                    · obtain rfl : L = k := by omega
                      have c29 := hV.c29
                      have c30 := hV.c30
                      have e2 := hV.e2
                      go_wp2_with fail
                      refine (durable22 _ _ _ c29).mono ?_
                      rintro e vk ⟨rfl, rfl⟩
                      go_wp2_with fail
                      refine (words16 _ _ _ _ _ e2).mono ?_
                      rintro e vk ⟨rfl, rfl⟩
                      go_wp2_with fail
                      refine (same17 _ _ L (full n) _ (by omega) (hV.arr.congr (fun j hj => (hD j hj).1)) hB.af).mono ?_
                      rintro e vz ⟨rfl, q, hq⟩
                      have hB : Base w vz y L bo bf n f0 d := by rw [hq]; exact hB.drewN q
                      have hV : Vol vz bc be bw bm L n f m := by rw [hq]; exact hV.drewN q
                      clear hq e2 c29 c30
                      have c30 := hV.c30
                      go_wp2_with fail
                      refine (dirty23 _ _ _ c30).mono ?_
                      rintro e vz ⟨rfl, rfl⟩
                      have hmk : Marks vz bm L (want n f0 d) := hV.marks.congr (fun j hj => (hD j hj).2)
                      have hSt : St w y L bo bf n f0 d bc be bw bm 0 vz := ⟨f, m, hB, hV, hI, fun j hj => absurd hj (by omega)⟩
                      clear hV hI hD c30 hk2 hlk
                      go_wp2_with fail
                      go_loopw [19, 20] (fun c i wr => ∃ k : Nat, k ≤ L ∧ i = .int .i64 k ∧ c = .int .i64 (cnt (want n f0 d) k) ∧ ∃ q, wr = vz.drewN q) (fun _ i _ => L - (intOf i).toNat)
                      case atStart => exact ⟨0, by omega, rfl, rfl, 0, rfl⟩
                      case round =>
                        obtain ⟨k, hk2, rfl, rfl, q, rfl⟩ := hrel
                        have hcl := cnt_le (want n f0 d) k
                        by_cases hlk : k < L
                        · have hc1 : vz.cell? (y.add k) = some (.bool (d k)) := hB.dc k hlk
                          have hc2 : vz.cell? ⟨bo, k, none⟩ = some (.int .u64 (f0 k)) := hB.ao.cell k hlk
                          have hc3 : vz.cell? ⟨bf, k, none⟩ = some (.int .u64 (full n k)) := hB.af.cell k hlk
                          have hkl : (k : Int) < (L : Int) := by omega
                          have HC : Hid (cnt (want n f0 d) (k + 1) = cnt (want n f0 d) k + if want n f0 d k then 1 else 0) := rfl
                          by_cases hd : d k = true
                          · have hw : want n f0 d k = true := by simp [want, hd]
                            rw [hd] at hc1
                            clear hd hc2 hc3
                            go_wp2_with fail
                            go_quiet (fail)
                            go_wp2_with (at_lookup; refine wpList_marked rfl (.tmp 134) (.tmp 135) rfl bm L (want n f0 d) _ k rfl (hmk.same rfl) (by omega) rfl rfl hlk ?_)
                            go_roundw
                            case rel => exact ⟨k + 1, by omega, by go_num, by rw [HC.out, hw]; go_num, _, rfl⟩
                            case measure => simp [intOf]; omega
                          · have hd : d k = false := by simpa using hd
                            rw [hd] at hc1
                            by_cases hq : f0 k = full n k
                            · have hw : want n f0 d k = false := by simp [want, hd, hq]
                              have hqq : (f0 k != full n k) = false := by simp [hq]
                              clear hd hq
                              go_wp2_with fail
                              go_quiet (fail)
                              go_wp2_with (at_lookup; refine wpList_marked rfl (.tmp 134) (.tmp 135) rfl bm L (want n f0 d) _ k rfl (hmk.same rfl) (by omega) rfl rfl hlk ?_)
                              go_roundw
                              case rel => exact ⟨k + 1, by omega, by go_num, by rw [HC.out, hw]; go_num, _, rfl⟩
                              case measure => simp [intOf]; omega
                            · have hw : want n f0 d k = true := by simp [want, hd, hq]
                              have hqq : (f0 k != full n k) = true := by simp [hq]
                              clear hd hq
                              go_wp2_with fail
                              go_quiet (fail)
                              go_wp2_with (at_lookup; refine wpList_marked rfl (.tmp 134) (.tmp 135) rfl bm L (want n f0 d) _ k rfl (hmk.same rfl) (by omega) rfl rfl hlk ?_)
                              go_roundw
                              case rel => exact ⟨k + 1, by omega, by go_num, by rw [HC.out, hw]; go_num, _, rfl⟩
                              case measure => simp [intOf]; omega
                        · obtain rfl : L = k := by omega
                          have hcc : ((cnt (want n f0 d) L : Int) != (cnt (want n f0 d) L : Int)) = false := by simp
                          have hSt : St w y L bo bf n f0 d bc be bw bm 0 (vz.drewN q) := by
                            obtain ⟨f, m, hB, hV, hI, hD⟩ := hSt
                            exact ⟨f, m, hB.drewN q, hV.drewN q, hI, hD⟩
                          go_wp2_with (at_len; refine wpList_marks rfl (.tmp 139) rfl bm L (want n f0 d) rfl (hmk.same rfl) ?_)
                          go_roundw
                          case rel => exact ⟨p + 1, by omega, by go_num, hSt⟩
                          case measure => simp [intOf]; omega
                · have hbl : Below w.heap.size w v9 := by
                    obtain ⟨f, m, hB, _⟩ := hSt
                    exact hB.be
                  clear hSt
                  go_wp2_with fail
                  go_ret
                  exact ⟨rfl, hbl⟩

end Go.Proofs.Qxb6608790aMods
