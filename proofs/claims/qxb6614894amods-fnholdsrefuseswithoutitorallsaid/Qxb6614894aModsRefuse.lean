import Derived.Test.Qxb6614894aModsJoin
namespace Go.Proofs.Qxb6614894aMods
open Go.ChangeShapes Go.WideShapes Go.ChangeAt Go.RowKit

/-- what has been kept after some rounds -/
structure Rest (w : World) (B l : Nat) (p : ByteArray) (j : Nat) (ks : List ByteArray) (wr : World) : Prop where
  own : wr.ownsRow B 9 1 (.slice (some ⟨B, 0, none⟩) ks.length l) ks.length (ks.map Value.string)
  bel : Below w.heap.size w wr
  len : ks.length ≤ j
  out : ∀ q ∈ ks, (p.toList == q.toList) = false ∧ (star.toList == q.toList) = false

theorem Rest.row {w wr : World} {B l j : Nat} {p : ByteArray} {ks : List ByteArray} (h : Rest w B l p j ks wr) : SRow wr B ks.length (fun i => ks.getD i ByteArray.empty) := by
  obtain ⟨hl, ⟨h1, _⟩ | ⟨g, cap, cur, hv, _, hh, _, _, hs, ht⟩⟩ := h.own
  · cases h1
  · simp only [Value.slice.injEq, Option.some.injEq, Addr.mk.injEq] at hv
    obtain ⟨⟨rfl, _, _⟩, _, rfl⟩ := hv
    refine ⟨cur, hh, fun i hi => ?_⟩
    have e := congrArg (fun l => l[i]?) ht
    simp only [List.getElem?_take] at e
    rw [if_pos (by omega)] at e
    simpa [hi] using e

theorem has_none {t : Nat → ByteArray} {p : ByteArray} : ∀ {n : Nat}, (∀ i, i < n → (p.toList == (t i).toList) = false) → has t p n = false
  | 0, _ => rfl
  | n + 1, h => by rw [has_succ, has_none (fun i hi => h i (by omega)), h n (by omega)]; rfl
theorem Rest.refuses {w wr : World} {B l j : Nat} {p : ByteArray} {ks : List ByteArray} (h : Rest w B l p j ks wr) : grants (fun i => ks.getD i ByteArray.empty) p ks.length = false := by
  have key : ∀ i, i < ks.length → (p.toList == (ks.getD i ByteArray.empty).toList) = false ∧ (star.toList == (ks.getD i ByteArray.empty).toList) = false := fun i hi => h.out _ (by simp [hi])
  unfold grants
  rw [has_none (fun i hi => (key i hi).1), has_none (fun i hi => (key i hi).2)]
  rfl
theorem grants_star (s : Nat → ByteArray) (p : ByteArray) (n l : Nat) (h : n ≤ l) : grants (ins s n star) p (l + 1) = true := by
  unfold grants
  rw [has_of (s := ins s n star) (p := star) (n := l + 1) (k := n) (by omega) (by simp [ins])]
  simp
theorem Rest.skip {w wr : World} {B l j : Nat} {p : ByteArray} {ks : List ByteArray} (h : Rest w B l p j ks wr) : Rest w B l p (j + 1) ks wr := { h with len := by have := h.len; omega }
theorem Rest.keep {w wr w1 : World} {B l j : Nat} {p q : ByteArray} {ks : List ByteArray} {o : Obj} (h : Rest w B l p j ks wr) (hB : w.heap.size ≤ B) (hq : (p.toList == q.toList) = false ∧ (star.toList == q.toList) = false)
    (ho : w1.ownsRow B 9 1 (.slice (some ⟨B, 0, none⟩) (ks.length + 1) l) (ks.length + 1) (ks.map Value.string ++ [.string q])) (hg : (wr.alloc o).grownBy w1 (some B)) : Rest w B l p (j + 1) (ks ++ [q]) w1 where
  own := by simpa using ho
  bel := (h.bel.alloc h.bel.size o).grown hg (by have := h.bel.size; simp; omega) (fun k e => by have := Option.some.inj e; omega)
  len := by have := h.len; simp; omega
  out := fun x hx => by
    rcases List.mem_append.1 hx with hx | hx
    · exact h.out x hx
    · obtain rfl : x = q := by simpa using hx
      exact hq

theorem star_list : star.toList = [42] := by decide +kernel
theorem one_string (q : ByteArray) : ∀ u ∈ [Value.string q], u.oneCell' = true := by
  intro u hu
  obtain rfl : u = .string q := by simpa using hu
  rfl
theorem beq_swap {x y : List UInt8} (h : (x == y) = false) : (y == x) = false := by
  rw [beq_eq_false_iff_ne] at h ⊢; exact fun e => h e.symm

set_option maxRecDepth 100000 in
set_option maxHeartbeats 1600000 in
theorem refuse4 (a : Option Addr) (l c : Nat) (s : Nat → ByteArray) (k : Int) (p : ByteArray) (w : World) (wk : (Lit.int .i64 k).wf = true) (hl : l ≤ maxLen) (hp : p.size ≤ maxLen) (hs : Strs w a l s) (hz : ∀ i, i < l → (s i).size ≤ maxLen) :
    Calls Trym.prog 4 #[.slice a l c, .int .i64 k, .string p] w fun e w' => e = .returned (.bool true) ∧ Below w.heap.size w w' := by
  obtain ⟨bk0, bk1⟩ := bounds_i64 wk
  have hp' : p.size ≤ 9223372036854775807 := hp
  go_enter Trym.func4, Trym.ntmps4
  go_wp2_with fail
  refine (bytes9 a l c s k p _ hl hp hs hz).mono ?_
  rintro e w ⟨⟨r, rfl, hr⟩, rfl⟩
  cases r
  · clear hr
    go_wp2_with fail
    go_ret
    exact ⟨rfl, Below.refl _ _⟩
  · have hle := hr rfl
    clear hr
    go_wp2_with fail
    refine (grow6 _ _ _ (by omega) (by omega)).mono ?_
    rintro e w ⟨rfl, rfl⟩
    have g0 := growF_bd 0 (p.size : Int)
    generalize growF 0 (p.size : Int) = t0 at *
    go_wp2_with fail
    go_loopw [7, 8] (fun t i wr => ∃ (j : Nat) (z : Int), j ≤ l ∧ i = .int .i64 j ∧ t = .int .i64 z ∧ -1 ≤ z ∧ z ≤ 1048576 ∧ Below w.heap.size w wr) (fun _ i _ => l - (intOf i).toNat)
    case atStart => exact ⟨0, t0, Nat.zero_le _, rfl, rfl, g0.1, g0.2, Below.refl _ _⟩
    case round =>
      obtain ⟨j, z, hj, rfl, rfl, hz0, hz1, hb3⟩ := hrel
      by_cases hlt : j < l
      · by_cases hzn : z < 0
        · go_wp2_with fail
          go_ret
          exact ⟨rfl, hb3⟩
        · obtain ⟨x, rfl, hcell⟩ := hs.below hb3 (by omega)
          have hc := hcell j hlt
          have hjl : (j : Int) < (l : Int) := by omega
          have hsj : (s j).size ≤ 9223372036854775807 := hz j hlt
          have hg1 := growF_bd z 16
          have hg2 := growF_bd (growF z 16) ((s j).size : Int)
          clear hcell
          go_wp2_with fail
          go_quiet ((go_at_call 6; exact Calls.quiet_of_same (grow6 _ _ _ (by omega) (by omega))))
          go_wp2_with fail
          go_roundw
          case rel => exact ⟨j + 1, _, by omega, by go_num, rfl, hg2.1, hg2.2, ⟨hb3.os, hb3.tape, hb3.output, hb3.size, hb3.block⟩⟩
          case measure => simp [intOf]; omega
      · by_cases hzn : z < 0
        · go_wp2_with fail
          go_ret
          exact ⟨rfl, hb3⟩
        · by_cases hk0 : k < 0
          · go_wp2_with fail
            go_ret
            exact ⟨rfl, hb3⟩
          · by_cases hk1 : (l : Int) < k
            · go_wp2_with fail
              go_ret
              exact ⟨rfl, hb3⟩
            · obtain ⟨n, rfl⟩ := Int.eq_ofNat_of_zero_le (show 0 ≤ k by omega)
              obtain ⟨v3, rfl⟩ : ∃ v, v = wr := ⟨_, rfl⟩
              obtain ⟨i0, hi, hy0, hy1, hy2⟩ := info_parts Trym.info9
              go_wp2_with (at_make; refine wpList_make_own _ rfl _ (.tmp 50) 22 rfl v3.heap.size 9 i0 (.string ByteArray.empty) 1 Trym.underlying22 hi hy0 hy1 .i64 .i64 _ l rfl rfl rfl (by rw [hy2]; omega) (by unfold maxLen; omega) (Nat.le_refl _) ?_; intro w1 hown hgrow)
              have hR0 : Rest w v3.heap.size l p 0 [] w1 := ⟨by simpa using hown, hb3.grown hgrow hb3.size (by simp), by simp, by simp⟩
              have hBs := hb3.size
              clear hown hgrow
              generalize v3.heap.size = B at *
              go_loopw [9, 10] (fun v i wr => ∃ (j : Nat) (ks : List ByteArray), j ≤ l ∧ i = .int .i64 j ∧ v = .slice (some ⟨B, 0, none⟩) ks.length l ∧ Rest w B l p j ks wr) (fun _ i _ => l - (intOf i).toNat)
              case atStart => exact ⟨0, [], Nat.zero_le _, rfl, rfl, hR0⟩
              case round =>
                obtain ⟨j, ks, hj, rfl, rfl, hR⟩ := hrel
                clear hR0
                by_cases hlt2 : j < l
                · obtain ⟨x, rfl, hcell⟩ := hs.below hR.bel (by omega)
                  have hc := hcell j hlt2
                  have hjl : (j : Int) < (l : Int) := by omega
                  clear hcell
                  by_cases h1 : ((s j).toList == p.toList) = true
                  · go_wp2_with fail
                    go_roundw
                    case rel => exact ⟨j + 1, ks, by omega, by go_num, rfl, hR.skip⟩
                    case measure => simp [intOf]; omega
                  · have h1 : ((s j).toList == p.toList) = false := by simpa using h1
                    by_cases h2 : ((s j).toList == [42]) = true
                    · go_wp2_with fail
                      go_roundw
                      case rel => exact ⟨j + 1, ks, by omega, by go_num, rfl, hR.skip⟩
                      case measure => simp [intOf]; omega
                    · have h2 : ((s j).toList == [42]) = false := by simpa using h2
                      have HQ : Hid ((p.toList == (s j).toList) = false ∧ (star.toList == (s j).toList) = false) := ⟨beq_swap h1, by rw [star_list]; exact beq_swap h2⟩
                      have hkl := hR.len
                      go_wp2_with (at_builtin; refine wpList_append_fits _ rfl (.tmp 71) (.tmp 76) 22 rfl B 9 i0 1 Trym.underlying22 hi hy1 B ks.length l _ rfl (hR.own.alloc _) ⟨wr.heap.size, 0, none⟩ 1 1 [.string (s j)] rfl rfl (cell_one_new _ _ _) (one_string _) (by omega) ?_; intro w1 ho1 hg1)
                      have R := hR.keep (by omega) HQ.out ho1 hg1
                      clear ho1 hg1 hR
                      go_wp2_with fail
                      go_roundw
                      case rel => exact ⟨j + 1, ks ++ [s j], by omega, by go_num, by simp, R⟩
                      case measure => simp [intOf]; omega
                · have hrow := hR.row
                  have href := hR.refuses
                  have hbel := hR.bel
                  have hkl := hR.len
                  clear hR
                  have hlk : ks.length ≤ 1048576 := by omega
                  generalize hL : ks.length = m at *
                  generalize (fun i => ks.getD i ByteArray.empty) = t at *
                  clear hL
                  have HF : Hid (grants t p m = false) := href
                  clear href
                  by_cases hcm : (m : Int) < (n : Int)
                  · go_wp2_with fail
                    refine (insert8 _ m l m t star _ hlk (Nat.le_refl _) hrow.strs).mono ?_
                    rintro e v5 ⟨b, rfl, hbw, hrow5, hbl⟩
                    have hb5 := hbel.trans (hbl.mono hbel.size)
                    have hrow' := hrow.below hbl hrow.lt
                    have HI := grants_star t p m m (Nat.le_refl _)
                    go_wp2_with fail
                    refine (holds7 _ m l t p _ (by omega) hrow'.strs).mono ?_
                    rintro e v5 ⟨hr, rfl⟩
                    unfold Grants at hr
                    rw [HF.out] at hr
                    subst hr
                    go_wp2_with fail
                    refine (holds7 _ (m + 1) (m + 1) (ins t m star) p _ (by omega) hrow5.strs).mono ?_
                    rintro e v5 ⟨hr, rfl⟩
                    unfold Grants at hr
                    rw [HI] at hr
                    subst hr
                    go_wp2_with fail
                    go_ret
                    exact ⟨rfl, hb5⟩
                  · go_wp2_with fail
                    refine (insert8 _ m l n t star _ hlk (by omega) hrow.strs).mono ?_
                    rintro e v5 ⟨b, rfl, hbw, hrow5, hbl⟩
                    have hb5 := hbel.trans (hbl.mono hbel.size)
                    have hrow' := hrow.below hbl hrow.lt
                    have HI := grants_star t p n m (by omega)
                    go_wp2_with fail
                    refine (holds7 _ m l t p _ (by omega) hrow'.strs).mono ?_
                    rintro e v5 ⟨hr, rfl⟩
                    unfold Grants at hr
                    rw [HF.out] at hr
                    subst hr
                    go_wp2_with fail
                    refine (holds7 _ (m + 1) (m + 1) (ins t n star) p _ (by omega) hrow5.strs).mono ?_
                    rintro e v5 ⟨hr, rfl⟩
                    unfold Grants at hr
                    rw [HI] at hr
                    subst hr
                    go_wp2_with fail
                    go_ret
                    exact ⟨rfl, hb5⟩

theorem refuse (a : Option Addr) (l c : Nat) (s : Nat → ByteArray) (k : Int) (p : ByteArray) (w : World) (ha : IsStrs w a l c s) (wk : (Lit.int .i64 k).wf = true) (hp : p.size ≤ maxLen) :
    Calls Trym.prog 4 #[.slice a l c, .int .i64 k, .string p] w fun e w' => e = .returned (.bool true) ∧ Below w.heap.size w w' := by
  rcases ha with ⟨rfl, rfl, rfl⟩ | ⟨x, rfl, hl, hc, hz⟩
  · exact refuse4 none 0 0 s k p w wk (Nat.zero_le _) hp (fun h => absurd h (by omega)) (fun i hi => absurd hi (by omega))
  · exact refuse4 (some x) l c s k p w wk hl hp (fun _ => ⟨x, rfl, hc⟩) hz

end Go.Proofs.Qxb6614894aMods
