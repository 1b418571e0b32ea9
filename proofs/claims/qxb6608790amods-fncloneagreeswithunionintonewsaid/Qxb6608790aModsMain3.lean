import Derived.Test.Qxb6608790aModsUnion
import Derived.LaidEqlPtr
namespace Go.Proofs.Qxb6608790aMods
open Go.ChangeShapes Go.WideShapes Go.ChangeAt Go.RowKit Go.Maps

theorem size46 : (Trym.prog.info? 46).map (fun i => i.size) = some 3 := by kernel_rfl
theorem ptrOther (w : World) {a b : Nat} {ca cb : Array Value} (hne : a ≠ b) (ha : w.heap[a]? = some (.cells ca 46 (0, 0))) (hb : w.heap[b]? = some (.cells cb 46 (0, 0))) :
    (binOp .eql 25 (.pointer (some ⟨a, 0, none⟩)) (.pointer (some ⟨b, 0, none⟩))).run Trym.prog w = .ok (.bool false) w := by
  obtain ⟨j, hj, hs⟩ := Option.map_eq_some_iff.1 size46
  exact run_eql_ptr_other w Trym.underlying25 hj (by omega) (fun h => hne (by injection h)) ha hb

theorem arr_at {w : World} {b n : Nat} {f : Nat → Int} (h : Arr w b n f) (i : Nat) (hi : i < n) : w.cell? ((⟨b, 0, none⟩ : Addr).add i) = some (.int .u64 (f i)) := by
  have : (⟨b, 0, none⟩ : Addr).add i = ⟨b, i, none⟩ := by
    unfold Addr.add; split
    · subst_vars; rfl
    · simp
  rw [this]; exact h.cell i hi

set_option maxRecDepth 100000 in
set_option maxHeartbeats 1600000 in
theorem main3 (a0 : Int) (n : Nat) (x : Addr) (L c2 : Nat) (f0 : Nat → Int) (z2 : List Int) (w : World) (w0 : (Lit.int .i64 a0).wf = true) (w1 : (Lit.int .i64 (n : Int)).wf = true)
    (hrow : IsRow .u64 w (some x) L c2 z2) (hp : 0 < L) (hL : L ≤ 65536)
    (hx : ∀ i, i < L → w.cell? (x.add i) = some (.int .u64 (f0 i))) (hf : ∀ i, i < L → 0 ≤ f0 i ∧ f0 i ≤ 18446744073709551615) :
    Calls Trym.prog 3 #[.int .i64 a0, .int .i64 n, .slice (some x) L c2] w fun e w' => e = .returned (.bool true) ∧ Below w.heap.size w w' := by
  go_enter Trym.func3, Trym.ntmps3
  go_wp2_with fail
  refine (bytes7 _ _ _ _ _ (by unfold maxLen; omega) _).mono ?_
  rintro e w ⟨⟨r, rfl⟩, rfl⟩
  cases r
  · go_wp2_with fail
    go_ret
    exact ⟨rfl, Below.refl _ _⟩
  · go_wp2_with fail
    refine (reach8 _ _ _ _ _ _ _ w0 w1 hrow).mono ?_
    rintro e w ⟨⟨r, rfl, hfit⟩, rfl⟩
    cases r
    · clear hfit
      go_wp2_with fail
      go_ret
      exact ⟨rfl, Below.refl _ _⟩
    · have HF : Fits a0 n L := hfit rfl
      clear hfit hrow w0 w1
      go_wp2_with fail
      refine (copy9 x L c2 f0 hp (by omega) _ hx).mono ?_
      rintro e v1 ⟨bw, rfl, hbw, har1, hbe1⟩
      go_wp2_with fail
      refine (copy9 ⟨bw, 0, none⟩ L L f0 hp (by omega) _ (fun i hi => arr_at har1 i hi)).mono ?_
      rintro e v2 ⟨bt, rfl, hbt, har2, hbe2⟩
      have l1 := har1.lt
      have l2 := har2.lt
      have s1 := hbe1.size
      have s2 := hbe2.size
      have r1 : Row v2 bw L f0 := Row.of (har1.below hbe2 l1)
      have r2 : Row v2 bt L f0 := Row.of har2
      have hbe := hbe1.trans (hbe2.mono s1)
      clear hbe1 hbe2 har1 har2 hx
      go_wp2_with fail
      refine (new10 _ _ _ _ _ _).mono ?_
      rintro e v3 ⟨rfl, hv3⟩
      have b3 : Below v2.heap.size v2 v3 := by rw [hv3]; exact (Below.refl _ _).alloc (Nat.le_refl _) _
      have s3 : v3.heap.size = v2.heap.size + 1 := by rw [hv3]; simp
      have hh3 : v3.heap[v2.heap.size]? = some (.cells #[.int .i64 a0, .int .i64 n, .slice (some ⟨bw, 0, none⟩) L L] 46 (0, 0)) := by rw [hv3]; exact heap_alloc_new _ _
      have e0 : v3.cell? ⟨v2.heap.size, 0, none⟩ = some (.int .i64 a0) := by rw [hv3]; simp
      have e1 : v3.cell? ⟨v2.heap.size, 1, none⟩ = some (.int .i64 n) := by rw [hv3]; simp
      have e2 : v3.cell? ⟨v2.heap.size, 2, none⟩ = some (.slice (some ⟨bw, 0, none⟩) L L) := by rw [hv3]; simp
      have r1 := r1.below b3 (by omega)
      have r2 := r2.below b3 (by omega)
      have hbe := hbe.trans (b3.mono (by omega))
      clear hv3 b3
      generalize v2.heap.size = be at *
      go_wp2_with fail
      refine (clone11 be bw L L a0 n f0 hp (by omega) _ r1 e0 e1 e2).mono ?_
      rintro e v4 ⟨bc, g, cap, rfl, k1, k2, k3, k4, c0, c1, c2', rg, b4, cc, hh4⟩
      have lg := rg.lt
      have hpe := ptrOther v4 (a := bc) (b := be) (by omega) hh4 ((b4.block be (by omega)).trans hh3)
      have e0 := (b4.cell (by simp; omega)).trans e0
      have e1 := (b4.cell (by simp; omega)).trans e1
      have e2 := (b4.cell (by simp; omega)).trans e2
      have r1 := r1.below b4 (by omega)
      have r2 := r2.below b4 (by omega)
      have hbe := hbe.trans (b4.mono (by omega))
      have s4 := b4.size
      clear b4 hh3 hh4
      go_wp2_with fail
      refine (new12 a0 n L _ (by omega) HF).mono ?_
      rintro e v5 ⟨bx, gx, rfl, m1, m2, m3, m4, x0, x1, x2, ax, b5⟩
      have lgx := ax.lt
      have e0 := (b5.cell (by simp; omega)).trans e0
      have e1 := (b5.cell (by simp; omega)).trans e1
      have e2 := (b5.cell (by simp; omega)).trans e2
      have c0 := (b5.cell (by simp; omega)).trans c0
      have c1 := (b5.cell (by simp; omega)).trans c1
      have c2' := (b5.cell (by simp; omega)).trans c2'
      have r1 := r1.below b5 (by omega)
      have r2 := r2.below b5 (by omega)
      have rg := rg.below b5 (by omega)
      have hbe := hbe.trans (b5.mono (by omega))
      have s5 := b5.size
      clear b5 hpe HF
      go_wp2_with fail
      refine (union13 bx be gx bw L L f0 _ (by omega) ax r1 hf x2 e2 (by omega) (by omega) (by omega)).mono ?_
      rintro e v6 ⟨rfl, ax', hc⟩
      have T : Tri w v6 a0 n L be bw bt bc g cap bx gx f0 f0 := { e0 := hc.cell e0 (by simp; omega), e1 := hc.cell e1 (by simp; omega), e2 := hc.cell e2 (by simp; omega), c0 := hc.cell c0 (by simp; omega), c1 := hc.cell c1 (by simp; omega), c2 := hc.cell c2' (by simp; omega), x0 := hc.cell x0 (by simp; omega), x1 := hc.cell x1 (by simp; omega), x2 := hc.cell x2 (by simp; omega), rw := r1.chg hc (by omega), rt := r2.chg hc (by omega), rg := rg.chg hc (by omega), rx := Row.of ax', bel := hbe.trans (hc.below (by omega) (fun b hb => by omega)) }
      have F : Far w be bw bt bc g bx gx := ⟨by omega, by omega, by omega, by omega, by omega, by omega, by omega⟩
      clear e0 e1 e2 c0 c1 c2' x0 x1 x2 r1 r2 rg hc hbe ax ax' hf
      have q0 : (a0 != a0) = false := by simp
      have q1 : ((n : Int) != (n : Int)) = false := by simp
      go_wp2_with fail
      refine (size14 _ _ _ T.c0).mono ?_
      rintro e v6 ⟨rfl, rfl⟩
      go_wp2_with fail
      refine (n15 _ _ _ T.c1).mono ?_
      rintro e v6 ⟨rfl, rfl⟩
      go_wp2_with fail
      refine (size14 _ _ _ T.x0).mono ?_
      rintro e v6 ⟨rfl, rfl⟩
      go_wp2_with fail
      refine (n15 _ _ _ T.x1).mono ?_
      rintro e v6 ⟨rfl, rfl⟩
      go_wp2_with fail
      refine (words16 _ _ _ _ _ T.c2).mono ?_
      rintro e v6 ⟨rfl, rfl⟩
      go_wp2_with fail
      refine (sameRows _ _ L _ _ f0 _ (by omega) T.rg T.rt).mono ?_
      rintro e v7 ⟨rfl, q, hq⟩
      have T : Tri w v7 a0 n L be bw bt bc g cap bx gx f0 f0 := by rw [hq]; exact T.drewN q
      clear hq
      go_wp2_with fail
      refine (words16 _ _ _ _ _ T.x2).mono ?_
      rintro e v7 ⟨rfl, rfl⟩
      go_wp2_with fail
      refine (sameRows _ _ L _ _ f0 _ (by omega) T.rx T.rt).mono ?_
      rintro e v8 ⟨rfl, q, hq⟩
      have T : Tri w v8 a0 n L be bw bt bc g cap bx gx f0 f0 := by rw [hq]; exact T.drewN q
      clear hq
      go_wp2_with fail
      go_loopw [12] (fun i wr => ∃ k : Nat, k ≤ L ∧ i = .int .i64 k ∧ ∃ fg, Tri w wr a0 n L be bw bt bc g cap bx gx f0 fg) (fun i _ => L - (intOf i).toNat)
      case atStart => exact ⟨0, Nat.zero_le _, rfl, f0, T⟩
      case round =>
        obtain ⟨k, hk, rfl, fg, TT⟩ := hrel
        clear T
        by_cases hlt : k < L
        · have hc1 := TT.rg.cell k hlt
          have hc2 := TT.rg.free k
          have hkl : (k : Int) < (L : Int) := by omega
          go_wp2_with fail
          go_roundw
          case rel => exact ⟨k + 1, by omega, by go_num, _, TT.store F k _⟩
          case measure => simp [intOf]; omega
        · have p0 : (a0 == a0) = true := by simp
          have p1 : ((n : Int) == (n : Int)) = true := by simp
          go_wp2_with fail
          refine (words16 _ _ _ _ _ TT.e2).mono ?_
          rintro e wr ⟨rfl, rfl⟩
          go_wp2_with fail
          refine (sameRows _ _ L _ _ f0 _ (by omega) TT.rw TT.rt).mono ?_
          rintro e v9 ⟨rfl, q, hq⟩
          have TT : Tri w v9 a0 n L be bw bt bc g cap bx gx f0 fg := by rw [hq]; exact TT.drewN q
          clear hq
          go_wp2_with fail
          refine (words16 _ _ _ _ _ TT.x2).mono ?_
          rintro e v9 ⟨rfl, rfl⟩
          go_wp2_with fail
          refine (sameRows _ _ L _ _ f0 _ (by omega) TT.rx TT.rt).mono ?_
          rintro e vA ⟨rfl, q, hq⟩
          have TT : Tri w vA a0 n L be bw bt bc g cap bx gx f0 fg := by rw [hq]; exact TT.drewN q
          clear hq
          go_wp2_with fail
          refine (size14 _ _ _ TT.e0).mono ?_
          rintro e vA ⟨rfl, rfl⟩
          go_wp2_with fail
          refine (n15 _ _ _ TT.e1).mono ?_
          rintro e vA ⟨rfl, rfl⟩
          go_wp2_with fail
          go_ret
          exact ⟨rfl, TT.bel⟩

end Go.Proofs.Qxb6608790aMods
