import Derived.Test.Qxb6614894aModsBytes
import Derived.Laws.CopyOwn
namespace Go.Proofs.Qxb6614894aMods
open Go.ChangeShapes Go.WideShapes Go.ChangeAt Go.RowKit

theorem neqNil (w : World) (a : Option Addr) (n c n' c' : Nat) : (binOp .neq 22 (.slice a n c) (.slice none n' c')).run Trym.prog w = .ok (.bool (!a.isNone)) w := run_neq_slice_nil_any w _ _ a n c n' c' Trym.underlying22

/-- the strings as cells -/
def cellsOf (s : Nat → ByteArray) (l : Nat) : List Value := (List.range l).map fun i => .string (s i)
theorem len_cellsOf (s : Nat → ByteArray) (l : Nat) : (cellsOf s l).length = l := by simp [cellsOf]
theorem made_block {w : World} {base b n : Nat} (h : w.ownsRow base 9 1 (.slice (some ⟨b, 0, none⟩) n n) n (madeCells (Value.string ByteArray.empty).cells (n * 1)).toList) : w.heap[b]? = some (.cells (cellsOf (fun _ => ByteArray.empty) n).toArray 9 (0, 0)) := by
  rw [show (Value.string ByteArray.empty).cells = #[.string ByteArray.empty] from rfl, toList_madeCells_one, Nat.mul_one] at h
  obtain ⟨hl, ⟨h1, _⟩ | ⟨g, cap, cur, hv, _, hh, _, _, hs, ht⟩⟩ := h
  · cases h1
  · simp only [Value.slice.injEq, Option.some.injEq, Addr.mk.injEq] at hv
    obtain ⟨⟨rfl, _, _⟩, _, rfl⟩ := hv
    rw [hh]
    have : cur.toList.take (n * 1) = cur.toList := List.take_of_length_le (by simp; omega)
    rw [this] at ht
    have e : cellsOf (fun _ => ByteArray.empty) n = List.replicate n (.string ByteArray.empty) := by simp [cellsOf, List.map_const']
    rw [e, ← ht]
theorem copied_row {w : World} {b n : Nat} {s : Nat → ByteArray} {cur : List Value} (hc : cur.length = n) (h : w.heap[b]? = some (.cells (splice cur 0 (cellsOf s n)).toArray 9 (0, 0))) : SRow w b n s := by
  refine ⟨_, h, fun i hi => ?_⟩
  have e : splice cur 0 (cellsOf s n) = cellsOf s n := by
    unfold splice
    rw [List.drop_of_length_le (by rw [len_cellsOf]; omega)]
    simp
  rw [e]
  simp [cellsOf, hi]

theorem src_cells {w w1 : World} {x : Addr} {l g : Nat} {s : Nat → ByteArray} (h : Strs w (some x) l s) (hb : Below w.heap.size w w1) :
    0 < (cellsOf s l).length → some (⟨g, 0, none⟩ : Addr) = some ⟨g, 0, none⟩ ∧ ∃ ad, some x = some ad ∧ ∀ j v, (cellsOf s l)[j]? = some v → w1.cell? (ad.add j) = some v := by
  intro hp
  rw [len_cellsOf] at hp
  obtain ⟨y, hy, hc⟩ := h.below hb hp
  refine ⟨rfl, y, hy, fun j v hv => ?_⟩
  have hj : j < l := by
    have := (List.getElem?_eq_some_iff.1 hv).1
    rwa [len_cellsOf] at this
  rw [hc j hj]
  simp [cellsOf, hj] at hv
  rw [hv]
theorem one_cells (s : Nat → ByteArray) (l : Nat) : ∀ v ∈ cellsOf s l, v.oneCell' = true := by
  intro v hv
  obtain ⟨i, _, rfl⟩ := List.mem_map.1 hv
  rfl

theorem grants_split (s : Nat → ByteArray) (p : ByteArray) (n l : Nat) (h : n ≤ l) : grants s p l = (grants s p n || grants (fun i => s (n + i)) p (l - n)) := by
  unfold grants
  have e1 := has_split (s := s) (p := star) n (l - n)
  have e2 := has_split (s := s) (p := p) n (l - n)
  rw [show n + (l - n) = l from by omega] at e1 e2
  rw [e1, e2]
  cases has s star n <;> cases has s p n <;> simp
theorem grants_ins (s : Nat → ByteArray) (p : ByteArray) (n l : Nat) (h : n ≤ l) : grants (ins s n p) p (l + 1) = true := by
  unfold grants
  rw [has_of (s := ins s n p) (p := p) (n := l + 1) (k := n) (by omega) (by simp [ins])]
  simp
theorem Strs.take {w : World} {a : Option Addr} {l n : Nat} {s : Nat → ByteArray} (h : Strs w a l s) (hn : n ≤ l) : Strs w a n s := fun hp => by
  obtain ⟨y, hy, hc⟩ := h (by omega)
  exact ⟨y, hy, fun i hi => hc i (by omega)⟩
theorem SRow.drop {w : World} {b l n : Nat} {s : Nat → ByteArray} (h : SRow w b l s) : Strs w (some ⟨b, n, none⟩) (l - n) (fun i => s (n + i)) := fun _ => by
  refine ⟨_, rfl, fun i hi => ?_⟩
  have e : (⟨b, n, none⟩ : Addr).add i = ⟨b, n + i, none⟩ := by
    unfold Addr.add; split
    · subst_vars; rfl
    · rfl
  rw [e]
  exact h.cell (n + i) (by omega)

set_option maxRecDepth 100000 in
set_option maxHeartbeats 1600000 in
theorem joinB (x : Addr) (l c : Nat) (s : Nat → ByteArray) (k : Int) (p : ByteArray) (w : World) (wk : (Lit.int .i64 k).wf = true) (hl : l ≤ maxLen) (hp : p.size ≤ maxLen) (hs : Strs w (some x) l s) (hz : ∀ i, i < l → (s i).size ≤ maxLen) :
    Calls Trym.prog 3 #[.slice (some x) l c, .int .i64 k, .string p] w fun e w' => e = .returned (.bool true) ∧ Below w.heap.size w w' := by
  obtain ⟨bk0, bk1⟩ := bounds_i64 wk
  have hp' : p.size ≤ 9223372036854775807 := hp
  have hq := neqNil
  obtain ⟨i0, hi, hz0, hz1, hz2⟩ := info_parts Trym.info9
  have hinfo : (Trym.prog.info? 9).map (·.size) = some 1 := by rw [hi]; simp [hz1]
  go_enter Trym.func3, Trym.ntmps3
  go_wp2_with fail
  refine (bytes5 (some x) l c s k p _ hl hp hs hz).mono ?_
  rintro e w ⟨⟨r, rfl, hr⟩, rfl⟩
  cases r
  · clear hr
    go_wp2_with fail
    go_ret
    exact ⟨rfl, Below.refl _ _⟩
  · have hle := hr rfl
    clear hr
    go_wp2_with (first | (at_make; refine wpList_make_full _ rfl (.tmp 22) (.tmp 22) 22 rfl w.heap.size 9 i0 (.string ByteArray.empty) 1 Trym.underlying22 hi hz0 hz1 .i64 .i64 _ _ l rfl rfl rfl rfl (by rw [hz2]; omega) (by unfold maxLen; omega) (Nat.le_refl _) ?_; intro w1 hown hgrow; have hb1 : Below w.heap.size w w1 := (Below.refl _ _).grown hgrow (Nat.le_refl _) (by simp)) | (refine wpList_copy_splice rfl (.tmp 24) (.tmp 25) 22 22 rfl 9 Trym.underlying22 hinfo _ _ _ _ _ _ rfl rfl w.heap.size 0 _ 9 (made_block hown) (cellsOf s l) (by rw [len_cellsOf]; simp) (src_cells hs hb1) (by rw [len_cellsOf, len_cellsOf]; omega) (one_cells s l) w.heap.size w hb1 (Nat.le_refl _) ?_; intro w2 hh2 hb2))
    have har : SRow w2 w.heap.size l s := copied_row (len_cellsOf _ _) hh2.out
    clear hh2 hb1 hown hgrow hi hz0 hz1 hz2 hinfo hq hs
    refine (grow6 _ _ _ (by omega) (by omega)).mono ?_
    rintro e w2 ⟨rfl, rfl⟩
    have g0 := growF_bd 0 (p.size : Int)
    generalize growF 0 (p.size : Int) = t0 at *
    go_wp2_with fail
    go_loopw [8, 9] (fun t i wr => ∃ (j : Nat) (z : Int), j ≤ l ∧ i = .int .i64 j ∧ t = .int .i64 z ∧ -1 ≤ z ∧ z ≤ 1048576 ∧ SRow wr w.heap.size l s ∧ Below w.heap.size w wr) (fun _ i _ => l - (intOf i).toNat)
    case atStart => exact ⟨0, t0, Nat.zero_le _, rfl, rfl, g0.1, g0.2, har, hb2⟩
    case round =>
      obtain ⟨j, z, hj, rfl, rfl, hz0, hz1, ha3, hb3⟩ := hrel
      clear har hb2
      by_cases hlt : j < l
      · by_cases hzn : z < 0
        · go_wp2_with fail
          go_ret
          exact ⟨rfl, hb3⟩
        · have hc : wr.cell? ⟨w.heap.size, j, none⟩ = some (.string (s j)) := ha3.cell j hlt
          have hjl : (j : Int) < (l : Int) := by omega
          have hsj : (s j).size ≤ 9223372036854775807 := hz j hlt
          have hg1 := growF_bd z 16
          have hg2 := growF_bd (growF z 16) ((s j).size : Int)
          go_wp2_with fail
          go_quiet ((go_at_call 6; exact Calls.quiet_of_same (grow6 _ _ _ (by omega) (by omega))))
          go_wp2_with fail
          go_roundw
          case rel => exact ⟨j + 1, _, by omega, by go_num, rfl, hg2.1, hg2.2, ha3, ⟨hb3.os, hb3.tape, hb3.output, hb3.size, hb3.block⟩⟩
          case measure => simp [intOf]; omega
      · by_cases hzn : z < 0
        · go_wp2_with fail
          go_ret
          exact ⟨rfl, hb3⟩
        · by_cases hk0 : k < 0
          · go_wp2_with fail
            go_ret
            exact ⟨rfl, hb3⟩
          · by_cases hk1 : (l : Int) < k
            · go_wp2_with fail
              go_ret
              exact ⟨rfl, hb3⟩
            · obtain ⟨n, rfl⟩ := Int.eq_ofNat_of_zero_le (show 0 ≤ k by omega)
              have hA := ha3.strs
              have hnl : n ≤ l := by omega
              obtain ⟨W, hW⟩ : ∃ W, grants s p l = W := ⟨_, rfl⟩
              obtain ⟨F, hF⟩ : ∃ F, grants s p n = F := ⟨_, rfl⟩
              obtain ⟨R, hR⟩ : ∃ R, grants (fun i => s (n + i)) p (l - n) = R := ⟨_, rfl⟩
              have HW : Hid (W = (F || R)) := by show W = (F || R); rw [← hW, ← hF, ← hR]; exact grants_split s p n l hnl
              have GW : Hid (grants s p l = W) := hW
              have GF : Hid (grants s p n = F) := hF
              have GR : Hid (grants (fun i => s (n + i)) p (l - n) = R) := hR
              clear hW hF hR
              go_wp2_with fail
              refine (holds7 _ l l s p _ (by omega) hA).mono ?_
              rintro e wr ⟨hr, rfl⟩
              unfold Grants at hr
              rw [GW.out] at hr
              subst hr
              go_wp2_with fail
              refine (holds7 _ n l s p _ (by omega) (hA.take hnl)).mono ?_
              rintro e wr ⟨hr, rfl⟩
              unfold Grants at hr
              rw [GF.out] at hr
              subst hr
              by_cases hnE : n = l
              · have E0 : Hid (grants (fun i => s (n + i)) p 0 = R) := by have := GR.out; rw [show l - n = 0 from by omega] at this; exact this
                subst hnE
                go_wp2_with fail
                refine (holds7 _ 0 0 (fun i => s (n + i)) p _ (by omega) (fun hp => absurd hp (by omega))).mono ?_
                rintro e wr ⟨hr, rfl⟩
                unfold Grants at hr
                rw [E0.out] at hr
                subst hr
                go_wp2_with fail
                refine (insert8 _ n n n s p _ hle (Nat.le_refl _) hA).mono ?_
                rintro e v5 ⟨b, rfl, hbw, hrow, hbl⟩
                have hb5 := hb3.trans (hbl.mono hb3.size)
                have HI := grants_ins s p n n (Nat.le_refl _)
                have HWo := HW.out
                cases F <;> cases R <;> simp only [Bool.or_false, Bool.or_true] at HWo <;> subst HWo
                all_goals
                  go_wp2_with fail
                  refine (holds7 _ (n + 1) (n + 1) (ins s n p) p _ (by omega) hrow.strs).mono ?_
                  rintro e v5 ⟨hr, rfl⟩
                  unfold Grants at hr
                  rw [HI] at hr
                  subst hr
                  go_wp2_with fail
                  go_ret
                  exact ⟨rfl, hb5⟩
              · have hlt3 : n < l := by omega
                go_wp2_with fail
                refine (holds7 _ (l - n) (l - n) (fun i => s (n + i)) p _ (by omega) ha3.drop).mono ?_
                rintro e wr ⟨hr, rfl⟩
                unfold Grants at hr
                rw [GR.out] at hr
                subst hr
                go_wp2_with fail
                refine (insert8 _ l l n s p _ hle hnl hA).mono ?_
                rintro e v5 ⟨b, rfl, hbw, hrow, hbl⟩
                have hb5 := hb3.trans (hbl.mono hb3.size)
                have HI := grants_ins s p n l hnl
                have HWo := HW.out
                cases F <;> cases R <;> simp only [Bool.or_false, Bool.or_true] at HWo <;> subst HWo
                all_goals
                  go_wp2_with fail
                  refine (holds7 _ (l + 1) (l + 1) (ins s n p) p _ (by omega) hrow.strs).mono ?_
                  rintro e v5 ⟨hr, rfl⟩
                  unfold Grants at hr
                  rw [HI] at hr
                  subst hr
                  go_wp2_with fail
                  go_ret
                  exact ⟨rfl, hb5⟩

end Go.Proofs.Qxb6614894aMods
