import Derived.Test.Qxb6614894aModsRows
import Derived.WalkKit
import Derived.ProofKit
import Derived.OpenShut
import Derived.Below
import Derived.WalkSpells
import Derived.WalkLawsBesides
import Derived.Deep.QuietTactic
import Derived.BigQuiet
import Derived.Deep.Light
namespace Go.Proofs.Qxb6614894aMods
open Go.ChangeShapes Go.WideShapes Go.ChangeAt Go.RowKit

/-- is p among the first n strings? -/
def has (s : Nat → ByteArray) (p : ByteArray) : Nat → Bool
  | 0 => false
  | n + 1 => has s p n || (p.toList == (s n).toList)
theorem has_of {s : Nat → ByteArray} {p : ByteArray} : ∀ {n k : Nat}, k < n → (p.toList == (s k).toList) = true → has s p n = true
  | 0, _, h, _ => absurd h (by omega)
  | n + 1, k, h, e => by
    unfold has
    by_cases hk : k = n
    · subst hk; rw [e]; simp
    · rw [has_of (by omega : k < n) e]; rfl
theorem has_step {s : Nat → ByteArray} {p : ByteArray} {k : Nat} (h : has s p k = false) (e : (p.toList == (s k).toList) = false) : has s p (k + 1) = false := by
  unfold has; rw [h, e]; rfl
theorem has_congr {s s' : Nat → ByteArray} {p : ByteArray} : ∀ n, (∀ i, i < n → s i = s' i) → has s p n = has s' p n
  | 0, _ => rfl
  | n + 1, h => by
    unfold has
    rw [has_congr n (fun i hi => h i (by omega)), h n (by omega)]
theorem has_succ (s : Nat → ByteArray) (p : ByteArray) (n : Nat) : has s p (n + 1) = (has s p n || (p.toList == (s n).toList)) := rfl
theorem has_split {s : Nat → ByteArray} {p : ByteArray} (a : Nat) : ∀ n, has s p (a + n) = (has s p a || has (fun i => s (a + i)) p n)
  | 0 => by simp [has]
  | n + 1 => by
    rw [← Nat.add_assoc, has_succ, has_succ, has_split a n, Bool.or_assoc]

/-- the slice a, of length l, holds the strings s 0 .. s (l - 1) -/
def Strs (w : World) (a : Option Addr) (l : Nat) (s : Nat → ByteArray) : Prop := 0 < l → ∃ x, a = some x ∧ ∀ i, i < l → w.cell? (x.add i) = some (.string (s i))

def Found (s : Nat → ByteArray) (p : ByteArray) (l : Nat) (e : Ending) : Prop := ∃ r, e = .returned (.int .i64 r) ∧ decide (0 ≤ r) = has s p l

set_option maxRecDepth 100000 in
set_option maxHeartbeats 400000 in
theorem index12 (a : Option Addr) (l c : Nat) (s : Nat → ByteArray) (p : ByteArray) (w : World) (hl : l ≤ 1048577) (hs : Strs w a l s) :
    Calls Trym.prog 12 #[.slice a l c, .string p] w fun e w' => Found s p l e ∧ w' = w := by
  by_cases hz : l = 0
  · subst hz
    go_enter Trym.func12, Trym.ntmps12
    go_wp2
    refine wp_loop_rounds 1 ?_
    rw [rounds_succ]
    go_wp2
    go_ret
    exact ⟨⟨_, rfl, rfl⟩, rfl⟩
  · obtain ⟨x, rfl, hcell⟩ := hs (by omega)
    go_enter Trym.func12, Trym.ntmps12
    go_wp2
    go_loop [8] (fun i => ∃ k : Nat, k ≤ l ∧ i = .int .i64 k ∧ has s p k = false) (fun i => l - (intOf i).toNat)
    case atStart => exact ⟨0, Nat.zero_le _, rfl, rfl⟩
    case round =>
      obtain ⟨k, hk, rfl, hh⟩ := hrel
      by_cases hlt : k < l
      · have hc := hcell k hlt
        by_cases hq : (p.toList == (s k).toList) = true
        · have R := has_of hlt hq
          go_wp2
          go_ret
          exact ⟨⟨_, rfl, by rw [R]; simp⟩, rfl⟩
        · have hq : (p.toList == (s k).toList) = false := by simpa using hq
          have R := has_step hh hq
          clear hh
          go_wp2
          go_round
          case rel => exact ⟨k + 1, by omega, by go_num, R⟩
          case measure => simp [intOf]; omega
      · obtain rfl : l = k := by omega
        have HH : Hid (has s p l = false) := hh
        clear hh
        go_wp2
        go_ret
        exact ⟨⟨_, rfl, by rw [HH.out]; rfl⟩, rfl⟩

theorem ret_bool {a b : Bool} (h : a = b) : Ending.returned (.bool a) = .returned (.bool b) := by rw [h]
def HasIt (s : Nat → ByteArray) (p : ByteArray) (l : Nat) (e : Ending) : Prop := e = .returned (.bool (has s p l))

set_option maxHeartbeats 400000 in
theorem contains11 (a : Option Addr) (l c : Nat) (s : Nat → ByteArray) (p : ByteArray) (w : World) (hl : l ≤ 1048577) (hs : Strs w a l s) :
    Calls Trym.prog 11 #[.slice a l c, .string p] w fun e w' => HasIt s p l e ∧ w' = w := by
  go_enter Trym.func11, Trym.ntmps11
  go_wp2_with fail
  refine (index12 a l c s p _ hl hs).mono ?_
  rintro e w ⟨⟨r, rfl, hr⟩, rfl⟩
  have HR : Hid (decide (0 ≤ r) = has s p l) := hr
  clear hr
  go_wp2_with fail
  go_ret
  exact ⟨ret_bool HR.out, rfl⟩

/-- the star: PermissionAll -/
def star : ByteArray := ⟨#[42]⟩
/-- what holds answers -/
def grants (s : Nat → ByteArray) (p : ByteArray) (l : Nat) : Bool := has s star l || has s p l
def Grants (s : Nat → ByteArray) (p : ByteArray) (l : Nat) (e : Ending) : Prop := e = .returned (.bool (grants s p l))

set_option maxHeartbeats 400000 in
theorem holds10 (a : Option Addr) (l c : Nat) (s : Nat → ByteArray) (p : ByteArray) (w : World) (hl : l ≤ 1048577) (hs : Strs w a l s) :
    Calls Trym.prog 10 #[.slice a l c, .string p] w fun e w' => Grants s p l e ∧ w' = w := by
  go_enter Trym.func10, Trym.ntmps10
  go_wp2_with fail
  refine (contains11 a l c s star _ hl hs).mono ?_
  rintro e w ⟨hr, rfl⟩
  obtain ⟨b, hb⟩ : ∃ b, has s star l = b := ⟨_, rfl⟩
  unfold HasIt at hr
  rw [hb] at hr
  subst hr
  have HB : Hid (has s star l = b) := hb
  clear hb
  cases b
  · go_wp2_with fail
    refine (contains11 a l c s p _ hl hs).mono ?_
    rintro e w ⟨hr, rfl⟩
    unfold HasIt at hr
    subst hr
    go_wp2_with fail
    go_ret
    exact ⟨ret_bool (by unfold grants; rw [HB.out]; rfl), rfl⟩
  · go_wp2_with fail
    go_ret
    exact ⟨ret_bool (by unfold grants; rw [HB.out]; rfl), rfl⟩

set_option maxHeartbeats 400000 in
theorem holds7 (a : Option Addr) (l c : Nat) (s : Nat → ByteArray) (p : ByteArray) (w : World) (hl : l ≤ 1048577) (hs : Strs w a l s) :
    Calls Trym.prog 7 #[.slice a l c, .string p] w fun e w' => Grants s p l e ∧ w' = w := by
  go_enter Trym.func7, Trym.ntmps7
  go_wp2_with fail
  refine (holds10 a l c s p _ hl hs).mono ?_
  rintro e w ⟨hr, rfl⟩
  unfold Grants at hr
  subst hr
  go_wp2_with fail
  go_ret
  exact ⟨rfl, rfl⟩

/-! ### rows of strings of the call's own -/
def SRow (w : World) (b n : Nat) (s : Nat → ByteArray) : Prop := ∃ cur, w.heap[b]? = some (.cells cur 9 (0, 0)) ∧ ∀ i, i < n → cur[i]? = some (.string (s i))
theorem SRow.lt {w : World} {b n : Nat} {f : Nat → ByteArray} (h : SRow w b n f) : b < w.heap.size := by obtain ⟨c, h, _⟩ := h; exact lt_of_block h
theorem SRow.cell {w : World} {b n : Nat} {f : Nat → ByteArray} (h : SRow w b n f) (i : Nat) (hi : i < n) : w.cell? ⟨b, i, none⟩ = some (.string (f i)) := by
  obtain ⟨c, h, hc⟩ := h
  rw [cell_of_row w b i _ _ _ h]; exact hc i hi
theorem SRow.free {w : World} {b n : Nat} {f : Nat → ByteArray} (h : SRow w b n f) (i : Nat) : w.frozen? ⟨b, i, none⟩ = false := by
  obtain ⟨c, h, hc⟩ := h
  exact frozen_of_row w b i _ _ h
theorem SRow.set {w : World} {b n : Nat} {f : Nat → ByteArray} (h : SRow w b n f) (k : Nat) (v : ByteArray) : SRow (w.setCell ⟨b, k, none⟩ (.string v)) b n (fun i => if i = k then v else f i) := by
  obtain ⟨c, h, hc⟩ := h
  refine ⟨_, heap_setCell_same w b k _ _ _ h, fun i hi => ?_⟩
  by_cases e : k = i
  · subst e
    have := (Array.getElem?_eq_some_iff.1 (hc k hi)).1
    simp [this]
  · rw [Array.getElem?_setIfInBounds, if_neg e]
    show c[i]? = some (Value.string (if i = k then v else f i))
    rw [if_neg (fun h : i = k => e h.symm)]; exact hc i hi
theorem SRow.below {w w' : World} {b n B : Nat} {f : Nat → ByteArray} (h : SRow w b n f) (hb : Below B w w') (hB : b < B) : SRow w' b n f := by
  obtain ⟨c, h, hc⟩ := h
  exact ⟨c, by rw [hb.block b hB]; exact h, hc⟩
theorem SRow.congr {w : World} {b n : Nat} {f g : Nat → ByteArray} (h : SRow w b n f) (hfg : ∀ i, i < n → f i = g i) : SRow w b n g := by
  obtain ⟨c, h, hc⟩ := h
  exact ⟨c, h, fun i hi => by rw [← hfg i hi]; exact hc i hi⟩
theorem SRow.made {w : World} {base b n : Nat} (h : w.ownsRow base 9 1 (.slice (some ⟨b, 0, none⟩) n n) n (madeCells (Value.string ByteArray.empty).cells (n * 1)).toList) : SRow w b n (fun _ => ByteArray.empty) := by
  rw [show (Value.string ByteArray.empty).cells = #[.string ByteArray.empty] from rfl, toList_madeCells_one, Nat.mul_one] at h
  obtain ⟨hl, ⟨h1, _⟩ | ⟨g, cap, cur, hv, _, hh, _, _, hs, ht⟩⟩ := h
  · cases h1
  · simp only [Value.slice.injEq, Option.some.injEq, Addr.mk.injEq] at hv
    obtain ⟨⟨rfl, _, _⟩, _, rfl⟩ := hv
    refine ⟨cur, hh, fun i hi => ?_⟩
    have e := congrArg (fun l => l[i]?) ht
    simp only [List.getElem?_take] at e
    rw [if_pos (by omega)] at e
    simpa [hi] using e
theorem add_own (b i : Nat) : (⟨b, 0, none⟩ : Addr).add i = ⟨b, i, none⟩ := by
  unfold Addr.add; split
  · subst_vars; rfl
  · simp
theorem SRow.strs {w : World} {b n : Nat} {f : Nat → ByteArray} (h : SRow w b n f) : Strs w (some ⟨b, 0, none⟩) n f :=
  fun _ => ⟨_, rfl, fun i hi => by rw [add_own]; exact h.cell i hi⟩
theorem add_block (x : Addr) (k : Nat) : (x.add k).block = x.block := by unfold Addr.add; split <;> rfl
theorem Strs.below {w w' : World} {a : Option Addr} {l : Nat} {s : Nat → ByteArray} (h : Strs w a l s) (hb : Below w.heap.size w w') : Strs w' a l s := fun hp => by
  obtain ⟨x, rfl, hc⟩ := h hp
  exact ⟨x, rfl, fun i hi => (hb.cell (block_lt_of_cell (hc i hi))).trans (hc i hi)⟩

theorem Trym.info9 : (Trym.prog.info? 9).map (fun i => (i.zero, i.size, i.bytes)) = some (some (.string ByteArray.empty), 1, 16) := by kernel_rfl

/-! ### grow -/
def growF (t n : Int) : Int := if t < 0 ∨ n < 0 ∨ 1048576 - t < n then -1 else t + n
theorem growF_bd (t n : Int) : -1 ≤ growF t n ∧ growF t n ≤ 1048576 := by unfold growF; split <;> omega
def Grew (t n : Int) (e : Ending) : Prop := e = .returned (.int .i64 (growF t n))
theorem ret_int {k : IntKind} {a b : Int} (h : a = b) : Ending.returned (.int k a) = .returned (.int k b) := by rw [h]

set_option maxHeartbeats 400000 in
theorem grow6 (t n : Int) (w : World) (ht : t ≤ 1048576) (hn : n ≤ 9223372036854775807) :
    Calls Trym.prog 6 #[.int .i64 t, .int .i64 n] w fun e w' => e = .returned (.int .i64 (growF t n)) ∧ w' = w := by
  obtain ⟨g, hg⟩ : ∃ g, growF t n = g := ⟨_, rfl⟩
  have HG : Hid (growF t n = g) := hg
  rw [hg]
  clear hg
  by_cases h0 : t < 0
  · go_enter Trym.func6, Trym.ntmps6
    go_wp2
    go_ret
    exact ⟨ret_int (by rw [← HG.out]; unfold growF; rw [if_pos (by omega)]), rfl⟩
  by_cases h1 : n < 0
  · go_enter Trym.func6, Trym.ntmps6
    go_wp2
    go_ret
    exact ⟨ret_int (by rw [← HG.out]; unfold growF; rw [if_pos (by omega)]), rfl⟩
  by_cases h2 : 1048576 - t < n
  · go_enter Trym.func6, Trym.ntmps6
    go_wp2
    go_ret
    exact ⟨ret_int (by rw [← HG.out]; unfold growF; rw [if_pos (by omega)]), rfl⟩
  · go_enter Trym.func6, Trym.ntmps6
    go_wp2
    go_ret
    exact ⟨ret_int (by rw [← HG.out]; unfold growF; rw [if_neg (by omega)]), rfl⟩

/-! ### insertAt -/
/-- the strings with p put in at place k -/
def ins (s : Nat → ByteArray) (k : Nat) (p : ByteArray) : Nat → ByteArray := fun i => if i < k then s i else if i = k then p else s (i - 1)
def Inserted (w : World) (l k : Nat) (s : Nat → ByteArray) (p : ByteArray) (e : Ending) (w' : World) : Prop :=
  ∃ b, e = .returned (.slice (some ⟨b, 0, none⟩) (l + 1) (l + 1)) ∧ w.heap.size ≤ b ∧ SRow w' b (l + 1) (ins s k p) ∧ Below w.heap.size w w'

/-- after the first j places -/
def Ins1 (w : World) (b l j : Nat) (s : Nat → ByteArray) (wr : World) : Prop := SRow wr b (l + 1) (fun i => if i < j then s i else ByteArray.empty) ∧ Below w.heap.size w wr
theorem Ins1.step {w wr : World} {b l j : Nat} {s : Nat → ByteArray} (h : Ins1 w b l j s wr) (hb : w.heap.size ≤ b) : Ins1 w b l (j + 1) s (wr.setCell ⟨b, j, none⟩ (.string (s j))) := by
  refine ⟨(h.1.set j (s j)).congr fun i _ => ?_, h.2.setCell hb _⟩
  by_cases e : i = j
  · subst e; simp
  · by_cases c : i < j
    · rw [if_neg e, if_pos c, if_pos (by omega)]
    · rw [if_neg e, if_neg c, if_neg (by omega)]
/-- behind place k, up to j -/
def Ins2 (w : World) (b l k j : Nat) (s : Nat → ByteArray) (p : ByteArray) (wr : World) : Prop := SRow wr b (l + 1) (fun i => if i ≤ j then ins s k p i else ByteArray.empty) ∧ Below w.heap.size w wr
theorem Ins2.start {w wr : World} {b l k : Nat} {s : Nat → ByteArray} {p : ByteArray} (h : Ins1 w b l k s wr) (hb : w.heap.size ≤ b) : Ins2 w b l k k s p (wr.setCell ⟨b, k, none⟩ (.string p)) := by
  refine ⟨(h.1.set k p).congr fun i _ => ?_, h.2.setCell hb _⟩
  unfold ins
  by_cases e : i = k
  · subst e; simp
  · by_cases c : i < k
    · rw [if_neg e, if_pos c, if_pos (by omega), if_pos c]
    · rw [if_neg e, if_neg c, if_neg (by omega)]
theorem Ins2.step {w wr : World} {b l k j : Nat} {s : Nat → ByteArray} {p : ByteArray} (h : Ins2 w b l k j s p wr) (hkj : k ≤ j) (hb : w.heap.size ≤ b) : Ins2 w b l k (j + 1) s p (wr.setCell ⟨b, j + 1, none⟩ (.string (s j))) := by
  refine ⟨(h.1.set (j + 1) (s j)).congr fun i _ => ?_, h.2.setCell hb _⟩
  by_cases e : i = j + 1
  · subst e
    rw [if_pos rfl, if_pos (by omega)]
    unfold ins
    rw [if_neg (by omega), if_neg (by omega)]
    rfl
  · by_cases c : i ≤ j
    · rw [if_neg e, if_pos c, if_pos (by omega)]
    · rw [if_neg e, if_neg c, if_neg (by omega)]

set_option maxRecDepth 100000 in
set_option maxHeartbeats 800000 in
theorem insert8 (a : Option Addr) (l c k : Nat) (s : Nat → ByteArray) (p : ByteArray) (w : World) (hl : l ≤ 1048576) (hk : k ≤ l) (hs : Strs w a l s) :
    Calls Trym.prog 8 #[.slice a l c, .int .i64 (k : Int), .string p] w fun e w' => Inserted w l k s p e w' := by
  obtain ⟨i0, hi, hz0, hz1, hz2⟩ := info_parts Trym.info9
  go_enter Trym.func8, Trym.ntmps8
  go_wp2_with (at_make; refine wpList_make_full _ rfl (.tmp 12) (.tmp 12) 22 rfl w.heap.size 9 i0 (.string ByteArray.empty) 1 Trym.underlying22 hi hz0 hz1 .i64 .i64 _ _ (l + 1) rfl rfl (by omega) (by omega) (by rw [hz2]; omega) (by unfold maxLen; omega) (Nat.le_refl _) ?_; intro w1 hown hgrow)
  have hc0 : Ins1 w w.heap.size l 0 s w1 := ⟨(SRow.made hown).congr (by simp), (Below.refl _ _).grown hgrow (Nat.le_refl _) (by simp)⟩
  clear hown hgrow hi hz0 hz1 hz2
  have hs1 : ∀ wr, Below w.heap.size w wr → Strs wr a l s := fun wr hb => hs.below hb
  go_loopw [8] (fun i wr => ∃ j : Nat, j ≤ k ∧ i = .int .i64 j ∧ Ins1 w w.heap.size l j s wr) (fun i _ => k - (intOf i).toNat)
  case atStart => exact ⟨0, Nat.zero_le _, rfl, hc0⟩
  case round =>
    obtain ⟨j, hj, rfl, hrl⟩ := hrel
    clear hc0
    by_cases hlt : j < k
    · obtain ⟨x, rfl, hcell⟩ := hs1 wr hrl.2 (by omega)
      have h1 := hcell j (by omega)
      have h2 := hrl.1.cell j (by omega)
      have h3 := hrl.1.free j
      have R := hrl.step (Nat.le_refl _)
      clear hcell
      go_wp2_with fail
      go_roundw
      case rel => exact ⟨j + 1, by omega, by go_num, R⟩
      case measure => simp [intOf]; omega
    · obtain rfl : k = j := by omega
      have h2 := hrl.1.cell k (by omega)
      have h3 := hrl.1.free k
      have R := Ins2.start (p := p) hrl (Nat.le_refl _)
      clear hrl
      go_wp2_with fail
      go_loopw [9] (fun i wq => ∃ j : Nat, k ≤ j ∧ j ≤ l ∧ i = .int .i64 j ∧ Ins2 w w.heap.size l k j s p wq) (fun i _ => l - (intOf i).toNat)
      case atStart => exact ⟨k, Nat.le_refl _, hk, rfl, R⟩
      case round =>
        obtain ⟨j, hj0, hj1, rfl, hrl⟩ := hrel
        clear R h2 h3
        by_cases hlt2 : j < l
        · obtain ⟨x, rfl, hcell⟩ := hs1 _ hrl.2 (by omega)
          have h1 := hcell j (by omega)
          have h2 := hrl.1.cell (j + 1) (by omega)
          have h3 := hrl.1.free (j + 1)
          have R := hrl.step hj0 (Nat.le_refl _)
          clear hcell
          go_wp2_with fail
          go_roundw
          case rel => exact ⟨j + 1, by omega, by omega, by go_num, R⟩
          case measure => simp [intOf]; omega
        · obtain rfl : l = j := by omega
          go_wp2_with fail
          go_ret
          exact ⟨_, rfl, Nat.le_refl _, hrl.1.congr (fun i hi => by rw [if_pos (by omega)]), hrl.2⟩

end Go.Proofs.Qxb6614894aMods
