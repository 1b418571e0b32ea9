import Derived.Test.Qxb6608790aModsRows
import Derived.WalkKit
import Derived.ProofKit
import Derived.OpenShut
import Derived.Below
import Derived.WalkSpells
import Derived.WalkLawsBesides
import Derived.Maps.OwnSet
import Derived.Maps.OwnOps
import Derived.Deep.QuietTactic
import Derived.BigQuiet
namespace Go.Proofs.Qxb6608790aMods
open Go.ChangeShapes Go.WideShapes Go.ChangeAt Go.RowKit

theorem ret_bool {a b : Bool} (h : a = b) : Ending.returned (.bool a) = .returned (.bool b) := by rw [h]

/-- WHAT THE WALK IS TOLD OF A SLICE OF INTEGERS THAT CAME IN -/
def IsRow (k : IntKind) (w : World) (a : Option Addr) (len cap : Nat) (zs : List Int) : Prop :=
  (a = none ∧ len = 0 ∧ cap = 0 ∧ zs = []) ∨
  ∃ x, a = some x ∧ len ≤ cap ∧ cap ≤ maxLen ∧ zs.length = cap ∧ (∀ i, i < zs.length → w.cell? (x.add i) = some (.int k (zs.getD i 0))) ∧ ∀ n ∈ zs, (Lit.int k n).wf = true


/-- the list f 0 .. f (n - 1) -/
def tab (n : Nat) (f : Nat → Int) : List Int := (List.range n).map f
theorem tab_len (n : Nat) (f : Nat → Int) : (tab n f).length = n := by simp [tab]
theorem tab_congr {n : Nat} {f g : Nat → Int} (h : ∀ i, i < n → f i = g i) : tab n f = tab n g :=
  List.map_congr_left (fun i hi => h i (List.mem_range.1 hi))
theorem tab_list (zs : List Int) : tab zs.length (fun i => zs.getD i 0) = zs := by
  apply List.ext_getElem
  · simp [tab]
  · intro i h1 h2
    simp [tab, h2]

/-- block b is a row of just the numbers f 0 .. f (n - 1) -/
def Arr (w : World) (b n : Nat) (f : Nat → Int) : Prop := w.heap[b]? = some (.cells ((tab n f).map (Value.int .u64)).toArray 33 (0, 0))

theorem Arr.lt {w : World} {b n : Nat} {f : Nat → Int} (h : Arr w b n f) : b < w.heap.size := lt_of_block h
theorem Arr.cell {w : World} {b n : Nat} {f : Nat → Int} (h : Arr w b n f) (i : Nat) (hi : i < n) : w.cell? ⟨b, i, none⟩ = some (.int .u64 (f i)) := by
  rw [cell_of_row w b i _ _ _ h]; simp [tab, hi]
theorem Arr.free {w : World} {b n : Nat} {f : Nat → Int} (h : Arr w b n f) (i : Nat) : w.frozen? ⟨b, i, none⟩ = false := frozen_of_row w b i _ _ h
theorem Arr.congr {w : World} {b n : Nat} {f g : Nat → Int} (h : Arr w b n f) (hfg : ∀ i, i < n → f i = g i) : Arr w b n g := by
  unfold Arr; rw [← tab_congr hfg]; exact h
theorem tab_set (n : Nat) (f : Nat → Int) (k : Nat) (v : Int) : (tab n f).set k v = tab n (fun i => if i = k then v else f i) := by
  apply List.ext_getElem
  · simp [tab]
  · intro i h1 h2
    rw [List.getElem_set]
    simp only [tab, List.getElem_map, List.getElem_range, eq_comm]
theorem Arr.set {w : World} {b n : Nat} {f : Nat → Int} (h : Arr w b n f) (k : Nat) (v : Int) : Arr (w.setCell ⟨b, k, none⟩ (.int .u64 v)) b n (fun i => if i = k then v else f i) := by
  unfold Arr
  rw [heap_setCell_same w b k _ _ _ h, ← tab_set]
  simp
theorem Arr.other {w : World} {b n : Nat} {f : Nat → Int} (h : Arr w b n f) {a : Addr} (ha : b ≠ a.block) (v : Value) : Arr (w.setCell a v) b n f := by
  unfold Arr; rw [heap_setCell_other w a b v ha]; exact h
theorem Arr.alloc {w : World} {b n : Nat} {f : Nat → Int} (h : Arr w b n f) (o : Obj) : Arr (w.alloc o) b n f := by
  unfold Arr; rw [heap_alloc_old (h := h.lt)]; exact h
theorem Arr.below {w w' : World} {b n B : Nat} {f : Nat → Int} (h : Arr w b n f) (hb : Below B w w') (hB : b < B) : Arr w' b n f := by
  unfold Arr; rw [hb.block b hB]; exact h
theorem Arr.owned {w : World} {base b n : Nat} {f : Nat → Int} (h : w.ownsRow base 33 1 (.slice (some ⟨b, 0, none⟩) n n) n ((tab n f).map (Value.int .u64))) : Arr w b n f := by
  obtain ⟨hl, ⟨h1, _⟩ | ⟨g, cap, cur, hv, _, hh, _, _, hs, ht⟩⟩ := h
  · cases h1
  · simp only [Value.slice.injEq, Option.some.injEq, Addr.mk.injEq] at hv
    obtain ⟨⟨rfl, _, _⟩, _, rfl⟩ := hv
    unfold Arr
    rw [hh]
    have : cur.toList.take (n * 1) = cur.toList := List.take_of_length_le (by simp; omega)
    rw [this] at ht
    rw [← ht]
theorem Arr.made {w : World} {base b n : Nat} (h : w.ownsRow base 33 1 (.slice (some ⟨b, 0, none⟩) n n) n (madeCells #[.int .u64 0] (n * 1)).toList) : Arr w b n (fun _ => 0) := by
  refine Arr.owned (base := base) ?_
  rw [toList_madeCells_one, Nat.mul_one] at h
  have e : (tab n fun _ => 0).map (Value.int .u64) = List.replicate n (.int .u64 0) := by
    simp [tab, List.map_const']
  rw [e]; exact h

theorem Trym.info33 : (Trym.prog.info? 33).map (fun i => (i.zero, i.size, i.bytes)) = some (some (.int .u64 0), 1, 8) := by kernel_rfl

theorem add_block (x : Addr) (k : Nat) : (x.add k).block = x.block := by unfold Addr.add; split <;> rfl

theorem eqNil (w : World) (a : Option Addr) (n c n' c' : Nat) : (binOp .eql 22 (.slice a n c) (.slice none n' c')).run Trym.prog w = .ok (.bool a.isNone) w := Lib.run_eql_slice_nil w _ _ a n c n' c' Trym.underlying22

def Copied (w : World) (n : Nat) (f : Nat → Int) (e : Ending) (w' : World) : Prop :=
  ∃ b, e = .returned (.slice (some ⟨b, 0, none⟩) n n) ∧ w.heap.size ≤ b ∧ Arr w' b n f ∧ Below w.heap.size w w'

/-- what the copying loop holds after k rounds -/
def Copying (w : World) (b l : Nat) (f : Nat → Int) (k : Nat) (wr : World) : Prop :=
  Arr wr b l (fun i => if i < k then f i else 0) ∧ Below w.heap.size w wr

theorem Copying.step {w wr : World} {b l k : Nat} {f : Nat → Int} (h : Copying w b l f k wr) (hb : w.heap.size ≤ b) : Copying w b l f (k + 1) (wr.setCell ⟨b, k, none⟩ (.int .u64 (f k))) := by
  refine ⟨(h.1.set k (f k)).congr fun i hi => ?_, h.2.setCell hb _⟩
  by_cases h1 : i = k
  · subst h1; simp
  · by_cases h2 : i < k
    · rw [if_neg h1, if_pos h2, if_pos (by omega)]
    · rw [if_neg h1, if_neg h2, if_neg (by omega)]

set_option maxRecDepth 100000 in
set_option maxHeartbeats 800000 in
theorem copy9 (x : Addr) (l c : Nat) (f : Nat → Int) (hp : 0 < l) (hm : l ≤ 1048576) (w : World)
    (hcell : ∀ i, i < l → w.cell? (x.add i) = some (.int .u64 (f i))) :
    Calls Trym.prog 9 #[.slice (some x) l c] w fun e w' => Copied w l f e w' := by
  obtain ⟨i0, hi, hz0, hz1, hz2⟩ := info_parts Trym.info33
  have hxb : x.block < w.heap.size := by
    have := block_lt_of_cell (hcell 0 hp); rwa [add_block] at this
  have hq := eqNil
  go_enter Trym.func9, Trym.ntmps9
  go_wp2_with (at_make; refine wpList_make_full _ rfl (.tmp 8) (.tmp 8) 22 rfl w.heap.size 33 i0 (.int .u64 0) 1 Trym.underlying22 hi hz0 hz1 .i64 .i64 _ _ l rfl rfl rfl rfl (by rw [hz2]; omega) (by unfold maxLen; omega) (Nat.le_refl _) ?_; intro w1 hown hgrow)
  have hc0 : Copying w w.heap.size l f 0 w1 := ⟨(Arr.made hown).congr (by simp), (Below.refl _ _).grown hgrow (Nat.le_refl _) (by simp)⟩
  clear hown hgrow hi hz0 hz1 hz2
  go_loopw [4] (fun i wr => ∃ k : Nat, k ≤ l ∧ i = .int .i64 k ∧ Copying w w.heap.size l f k wr) (fun i _ => l - (intOf i).toNat)
  case atStart => exact ⟨0, Nat.zero_le _, rfl, hc0⟩
  case round =>
    obtain ⟨k, hk, rfl, hrl⟩ := hrel
    by_cases hlt : k < l
    · have hc1 : wr.cell? (x.add k) = some (.int .u64 (f k)) := (hrl.2.cell (by rw [add_block]; exact hxb)).trans (hcell k hlt)
      have hc2 := hrl.1.cell k hlt
      have hc3 := hrl.1.free k
      have R := hrl.step (Nat.le_refl _)
      clear hc0
      go_wp2
      go_roundw
      case rel => exact ⟨k + 1, by omega, by go_num, R⟩
      case measure => simp [intOf]; omega
    · obtain rfl : k = l := by omega
      go_wp2
      go_ret
      exact ⟨_, rfl, Nat.le_refl _, hrl.1.congr (fun i hi => by simp [hi]), hrl.2⟩


/-! ### the map of marked words -/
open Go.Maps

/-- how many of the first n are marked -/
def cnt (m : Nat → Bool) : Nat → Nat
  | 0 => 0
  | n + 1 => cnt m n + if m n then 1 else 0
theorem cnt_le (m : Nat → Bool) : ∀ n, cnt m n ≤ n
  | 0 => Nat.le_refl _
  | n + 1 => by have := cnt_le m n; unfold cnt; split <;> omega
theorem cnt_congr {m m' : Nat → Bool} : ∀ n, (∀ i, i < n → m i = m' i) → cnt m n = cnt m' n
  | 0, _ => rfl
  | n + 1, h => by
    unfold cnt
    rw [cnt_congr n (fun i hi => h i (by omega)), h n (by omega)]
theorem cnt_none : ∀ n, cnt (fun _ => false) n = 0
  | 0 => rfl
  | n + 1 => by unfold cnt; rw [cnt_none n]; simp
def mark (m : Nat → Bool) (j : Nat) : Nat → Bool := fun i => if i = j then true else m i
theorem cnt_mark (m : Nat → Bool) (j : Nat) : ∀ n, cnt (mark m j) n = if j < n then (if m j then cnt m n else cnt m n + 1) else cnt m n
  | 0 => by simp [cnt]
  | n + 1 => by
    unfold cnt
    rw [cnt_mark m j n]
    unfold mark
    by_cases h1 : n = j
    · subst h1
      cases h : m n <;> simp
    · by_cases h2 : j < n
      · have h3 : j < n + 1 := by omega
        simp only [h1, h2, h3, if_true, if_false]
        cases m j <;> simp
        omega
      · have h3 : ¬ j < n + 1 := by omega
        simp only [h1, h2, h3, if_false]

theorem bool_inv {P : Program} {e : TypeId} (he : P.underlying e = some .bool) {v : Value} {x : Bool} {ps : List MemPlace} (h : plainElem (H := Unit) P e v = some (.lit (.bool x), ps)) : v = .bool x := by
  unfold plainElem at h
  rw [he] at h
  cases v <;> simp at h
  rw [h.1]

theorem Trym.zero4 (w : World) : (zeroValue 4).run Trym.prog w = .ok (.bool false) w := by kernel_rfl
theorem Trym.keyed3 : Keyed Trym.prog 3 := int_keyed Trym.underlying3

/-- block bm is a map from int to bool: of the keys below n just those are there that m marks, each with true; and no others -/
def Marks (w : World) (bm n : Nat) (m : Nat → Bool) : Prop :=
  ∃ D : DataW Unit, w.ownsMap Trym.prog 3 (plainElem Trym.prog 4) bm (Maps.size D) D ∧
    (∀ j : Nat, j < n → D.atKey (.int .i64 j) (.lit (.bool false)) = .lit (.bool (m j)) ∧ Maps.has D (.int .i64 j) = m j) ∧ Maps.size D = cnt m n

theorem Marks.lt {w : World} {bm n : Nat} {m : Nat → Bool} (h : Marks w bm n m) : bm < w.heap.size := by
  obtain ⟨D, h, _⟩ := h; exact h.lt

theorem owns_exact {w : World} {b n : Nat} {D : DataW Unit} (h : w.ownsMap Trym.prog 3 (plainElem Trym.prog 4) b n D) : w.ownsMap Trym.prog 3 (plainElem Trym.prog 4) b (Maps.size D) D := by
  obtain ⟨es, clock, h1, F, _, rfl⟩ := h
  exact ⟨es, clock, h1, F, by rw [Maps.size_eq, length_read]; exact Nat.le_refl _, rfl⟩

theorem Marks.made (w : World) (n : Nat) : Marks (w.alloc (.map #[] 0)) w.heap.size n (fun _ => false) :=
  ⟨.map [], World.ownsMap_made w _ _ _, fun j _ => ⟨by simp [DataW.atKey], by simp [Maps.has_eq]⟩, by rw [cnt_none]; rfl⟩

theorem Marks.same {w w' : World} {bm n : Nat} {m : Nat → Bool} (h : Marks w bm n m) (hb : w'.heap[bm]? = w.heap[bm]?) : Marks w' bm n m := by
  obtain ⟨D, ⟨es, clock, h1, F, h3, h4⟩, h5, h6⟩ := h
  exact ⟨D, ⟨es, clock, by rw [hb]; exact h1, F, h3, h4⟩, h5, h6⟩

theorem key_wf (j : Nat) (h : j ≤ 1048576) : (Lit.int .i64 (j : Int)).wf = true := WalkArith.wf_i64 (by omega)

theorem Marks.put {w : World} {bm n : Nat} {m : Nat → Bool} (h : Marks w bm n m) (hn : n ≤ 1048576) (j : Nat) (hj : j < n) :
    ∃ w', (Instr.mapUpdate 38 (.map (some bm)) (.int .i64 (j : Int)) (.bool true)).run Trym.prog w = .ok () w' ∧ Marks w' bm n (mark m j) ∧ w.grownBy w' (some bm) := by
  obtain ⟨D, hown, hat, hsz⟩ := h
  have hc := cnt_le m n
  obtain ⟨w', hrun, hown', hg⟩ := hown.update Trym.keyed3 Trym.underlying38 (by unfold maxLen; omega) (keyOf_int_mk Trym.underlying3 (key_wf j (by omega))) (plainElem_bool Trym.underlying4 true)
  refine ⟨w', hrun, ⟨_, owns_exact hown', fun i hi => ?_, ?_⟩, hg⟩
  · by_cases e : i = j
    · subst e
      have hk : WideAt.IsKeyLit (Lit.int .i64 (i : Int)) := by simp [WideAt.IsKeyLit]
      rw [atKey_put_same hown.isMap hk, has_put_same hown.isMap hk]
      simp [mark]
    · have hne : Lit.int .i64 (i : Int) ≠ Lit.int .i64 (j : Int) := fun h => e (Int.ofNat.inj (Lit.int.inj h).2)
      rw [atKey_put_other hne, has_put_other hne]
      simp only [mark, if_neg e]
      exact hat i hi
  · rw [size_put (hown.tidy Trym.keyed3), (hat j hj).2, hsz, cnt_mark, if_pos hj]

theorem wpList_mark {w : World} {ops : Array Oper} {rest : List Oper} {o : Oper} {a : Act} {Q : Exit → Act → World → Prop}
    (hg : o.guard = none) (mo x v : Operand) (hop : o.op = Op.mapUpdate 38 mo x v) (bm n : Nat) (m : Nat → Bool) (J : Int) (j : Nat)
    (hm : a.eval mo = .map (some bm)) (hmk : Marks w bm n m) (hn : n ≤ 1048576) (hx : a.eval x = .int .i64 J) (hJ : J = (j : Int)) (hv : a.eval v = .bool true) (hj : j < n)
    (hK : ∀ w', Marks w' bm n (mark m j) → w.grownBy w' (some bm) → wpList Trym.prog ops Q rest (a.put o.dst undef) w') :
    wpList Trym.prog ops Q (o :: rest) a w := by
  subst hJ
  refine wpList_plain hg fun K' hK' => ?_
  obtain ⟨w', hrun, r1, r2⟩ := hmk.put hn j hj
  unfold Oper.wp
  simp [execOp, hop, hm, hx, hv, hrun, Result.andThen]
  exact hK' _ _ (hK w' r1 r2)

theorem wpList_marked {w : World} {ops : Array Oper} {rest : List Oper} {o : Oper} {a : Act} {Q : Exit → Act → World → Prop}
    (hg : o.guard = none) (mo x : Operand) (hop : o.op = Op.lookup 38 mo x false) (bm n : Nat) (m : Nat → Bool) (J : Int) (j : Nat)
    (hm : a.eval mo = .map (some bm)) (hmk : Marks w bm n m) (hn : n ≤ 1048576) (hx : a.eval x = .int .i64 J) (hJ : J = (j : Int)) (hj : j < n)
    (hK : wpList Trym.prog ops Q rest (a.put o.dst (.bool (m j))) w) :
    wpList Trym.prog ops Q (o :: rest) a w := by
  subst hJ
  refine wpList_plain hg fun K' hK' => ?_
  obtain ⟨D, hown, hat, hsz⟩ := hmk
  obtain ⟨v, ps, hrun, hv⟩ := hown.lookup Trym.keyed3 Trym.underlying38 (Trym.zero4 w) (plainElem_bool Trym.underlying4 false) (keyOf_int_mk Trym.underlying3 (key_wf j (by omega)))
  rw [(hat j hj).1] at hv
  obtain rfl := bool_inv Trym.underlying4 hv
  unfold Oper.wp
  simp [execOp, hop, hm, hx, hrun, Result.andThen]
  exact hK' _ _ hK

theorem wpList_marks {w : World} {ops : Array Oper} {rest : List Oper} {o : Oper} {a : Act} {Q : Exit → Act → World → Prop}
    (hg : o.guard = none) (mo : Operand) (hop : o.op = Op.call { callee := Callee.builtin Builtin.len, args := #[mo], argTypes := #[38] }) (bm n : Nat) (m : Nat → Bool)
    (hm : a.eval mo = .map (some bm)) (hmk : Marks w bm n m)
    (hK : wpList Trym.prog ops Q rest (a.put o.dst (.int .i64 (cnt m n))) w) :
    wpList Trym.prog ops Q (o :: rest) a w := by
  obtain ⟨D, hown, hat, hsz⟩ := hmk
  rw [← hsz] at hK
  exact wpList_len_own _ hg mo 38 hop 3 4 Trym.underlying38 _ bm _ D hm hown hK


/-- only the blocks of S have turned; no block has gone -/
structure Chg (S : Nat → Prop) (w w' : World) : Prop where
  os : w'.os = w.os
  tape : w'.tape = w.tape
  output : w'.output = w.output
  size : w.heap.size ≤ w'.heap.size
  block : ∀ k, k < w.heap.size → ¬ S k → w'.heap[k]? = w.heap[k]?

theorem Chg.refl (S : Nat → Prop) (w : World) : Chg S w w := ⟨rfl, rfl, rfl, Nat.le_refl _, fun _ _ _ => rfl⟩
theorem Chg.trans {S : Nat → Prop} {a b c : World} (h : Chg S a b) (k : Chg S b c) : Chg S a c :=
  ⟨k.os.trans h.os, k.tape.trans h.tape, k.output.trans h.output, Nat.le_trans h.size k.size, fun i hi hs => (k.block i (Nat.lt_of_lt_of_le hi h.size) hs).trans (h.block i hi hs)⟩
theorem Chg.setCell {S : Nat → Prop} {a w : World} (h : Chg S a w) {p : Addr} (hp : S p.block) (u : Value) : Chg S a (w.setCell p u) :=
  h.trans ⟨rfl, rfl, rfl, by simp [World.setCell], fun k _ hs => heap_setCell_other w p k u (fun e => hs (e ▸ hp))⟩
theorem Chg.grown {S : Nat → Prop} {a w w' : World} {row : Option Nat} (h : Chg S a w) (hg : w.grownBy w' row) (hr : ∀ k, row = some k → S k) : Chg S a w' :=
  h.trans ⟨hg.os, hg.tape, hg.output, hg.size, fun k hk hs => hg.block k hk (fun e => hs (hr k e.symm))⟩
theorem Chg.below {S : Nat → Prop} {w w' : World} {B : Nat} (h : Chg S w w') (hB : B ≤ w.heap.size) (hS : ∀ k, S k → B ≤ k) : Below B w w' :=
  ⟨h.os, h.tape, h.output, h.size, fun k hk => h.block k (Nat.lt_of_lt_of_le hk hB) (fun hs => absurd (hS k hs) (by omega))⟩
theorem Chg.cell {S : Nat → Prop} {w w' : World} (h : Chg S w w') {p : Addr} {v : Value} (hc : w.cell? p = some v) (hp : ¬ S p.block) : w'.cell? p = some v := by
  rw [World.cell?_of_block (w := w) (h.block p.block (block_lt_of_cell hc) hp)]; exact hc
theorem Arr.chg {S : Nat → Prop} {w w' : World} {b n : Nat} {f : Nat → Int} (h : Arr w b n f) (hc : Chg S w w') (hb : ¬ S b) : Arr w' b n f := by
  unfold Arr; rw [hc.block b h.lt hb]; exact h
theorem Marks.chg {S : Nat → Prop} {w w' : World} {bm n : Nat} {m : Nat → Bool} (h : Marks w bm n m) (hc : Chg S w w') (hb : ¬ S bm) : Marks w' bm n m := h.same (hc.block bm h.lt hb)

/-- the two structs, the words and the map of marks as they lie -/
structure Vol (w : World) (bc be bw bm L : Nat) (N : Int) (f : Nat → Int) (m : Nat → Bool) : Prop where
  c29 : w.cell? ⟨bc, 29, none⟩ = some (.pointer (some ⟨be, 0, none⟩))
  c30 : w.cell? ⟨bc, 30, none⟩ = some (.map (some bm))
  e1 : w.cell? ⟨be, 1, none⟩ = some (.int .i64 N)
  e2 : w.cell? ⟨be, 2, none⟩ = some (.slice (some ⟨bw, 0, none⟩) L L)
  arr : Arr w bw L f
  marks : Marks w bm L m
  d1 : bc ≠ bw
  d2 : bc ≠ bm
  d3 : be ≠ bw
  d4 : be ≠ bm
  d5 : bw ≠ bm

theorem Vol.congr {w : World} {bc be bw bm L : Nat} {N : Int} {f f' : Nat → Int} {m m' : Nat → Bool} (h : Vol w bc be bw bm L N f m) (hf : ∀ i, i < L → f i = f' i) (hm : ∀ i, i < L → m i = m' i) : Vol w bc be bw bm L N f' m' := by
  refine { h with arr := h.arr.congr hf, marks := ?_ }
  obtain ⟨D, h1, h2, h3⟩ := h.marks
  exact ⟨D, h1, fun j hj => by rw [← hm j hj]; exact h2 j hj, by rw [h3]; exact cnt_congr L hm⟩

theorem Vol.store {w : World} {bc be bw bm L : Nat} {N : Int} {f : Nat → Int} {m : Nat → Bool} (h : Vol w bc be bw bm L N f m) (k : Nat) (v : Int) : Vol (w.setCell ⟨bw, k, none⟩ (.int .u64 v)) bc be bw bm L N (fun i => if i = k then v else f i) m := by
  have hc : Chg (· = bw) w (w.setCell ⟨bw, k, none⟩ (.int .u64 v)) := Chg.setCell (S := (· = bw)) (Chg.refl _ _) rfl _
  exact { c29 := hc.cell h.c29 h.d1, c30 := hc.cell h.c30 h.d1, e1 := hc.cell h.e1 h.d3, e2 := hc.cell h.e2 h.d3, arr := h.arr.set k v, marks := h.marks.chg hc (fun e => h.d5 e.symm), d1 := h.d1, d2 := h.d2, d3 := h.d3, d4 := h.d4, d5 := h.d5 }

theorem Vol.marked {w w' : World} {bc be bw bm L : Nat} {N : Int} {f : Nat → Int} {m m' : Nat → Bool} (h : Vol w bc be bw bm L N f m) (hm : Marks w' bm L m') (hg : w.grownBy w' (some bm)) : Vol w' bc be bw bm L N f m' := by
  have hc : Chg (· = bm) w w' := (Chg.refl _ _).grown hg (fun k e => (Option.some.inj e).symm)
  exact { c29 := hc.cell h.c29 h.d2, c30 := hc.cell h.c30 h.d2, e1 := hc.cell h.e1 h.d4, e2 := hc.cell h.e2 h.d4, arr := h.arr.chg hc h.d5, marks := hm, d1 := h.d1, d2 := h.d2, d3 := h.d3, d4 := h.d4, d5 := h.d5 }

/-- word j of the full set of n extents -/
def full (n j : Nat) : Int := (2 : Int) ^ (min 64 (n - 64 * j)) - 1

/-- what markRegion has made of the words, and of the marks, from lo up to hi -/
def fReg (n lo hi : Nat) (f : Nat → Int) : Nat → Int := fun i => if lo ≤ i ∧ i < hi then full n i else f i
def mReg (n lo hi : Nat) (f : Nat → Int) (m : Nat → Bool) : Nat → Bool := fun i => if lo ≤ i ∧ i < hi then (m i || f i != full n i) else m i

theorem pow_bd (e : Nat) (h : e < 64) : (1 : Int) ≤ 2 ^ e ∧ (2 : Int) ^ e ≤ 9223372036854775808 := by
  have h1 := Nat.one_le_two_pow (n := e)
  have h2 : (2 : Nat) ^ e ≤ 2 ^ 63 := Nat.pow_le_pow_right (by omega) (by omega)
  rw [show (2 : Nat) ^ 63 = 9223372036854775808 from by decide] at h2
  have h3 : (2 : Int) ^ e = ((2 ^ e : Nat) : Int) := by simp
  rw [h3]
  generalize 2 ^ e = p at *
  omega
theorem wrap_pow (e : Nat) (h : e < 64) : IntKind.u64.wrap (IntKind.u64.wrap (2 ^ e) - 1) = (2 : Int) ^ e - 1 := by
  have h1 := pow_bd e h
  generalize (2 : Int) ^ e = p at *
  rw [IntWalk.u64_in p (by omega), IntWalk.u64_in (p - 1) (by omega)]

theorem full_tail (n j : Nat) (h : (n : Int) - (j : Int) * 64 < 64) : IntKind.u64.wrap (IntKind.u64.wrap (2 ^ (n - j * 64)) - 1) = full n j := by
  have h1 : n - j * 64 < 64 := by omega
  rw [wrap_pow _ h1]
  unfold full
  rw [show min 64 (n - 64 * j) = n - j * 64 from by omega]
theorem full_whole (n j : Nat) (h : ¬ (n : Int) - (j : Int) * 64 < 64) : 18446744073709551615 = full n j := by
  unfold full
  rw [show min 64 (n - 64 * j) = 64 from by omega]
  rfl

section
variable {w w1 : World} {bc be bw bm L n lo j : Nat} {f : Nat → Int} {m : Nat → Bool}
theorem Vol.stepNo (h : Vol w bc be bw bm L n (fReg n lo j f) (mReg n lo j f m)) {A : Int} (hA : A = full n j) (hlo : lo ≤ j) (he : f j = A) : Vol w bc be bw bm L n (fReg n lo (j + 1) f) (mReg n lo (j + 1) f m) := by
  refine h.congr (fun i _ => ?_) (fun i _ => ?_)
  · unfold fReg
    by_cases e : i = j
    · subst e; rw [if_neg (by omega), if_pos (by omega), he, hA]
    · by_cases c : lo ≤ i ∧ i < j
      · rw [if_pos c, if_pos (by omega)]
      · rw [if_neg c, if_neg (by omega)]
  · unfold mReg
    by_cases e : i = j
    · subst e; rw [if_neg (by omega), if_pos (by omega), he, hA]; simp
    · by_cases c : lo ≤ i ∧ i < j
      · rw [if_pos c, if_pos (by omega)]
      · rw [if_neg c, if_neg (by omega)]
theorem Vol.stepYes (h : Vol w bc be bw bm L n (fReg n lo j f) (mReg n lo j f m)) {A : Int} (hA : A = full n j) (hlo : lo ≤ j) (he : f j ≠ A)
    (hm : Marks w1 bm L (mark (mReg n lo j f m) j)) (hg : (w.setCell ⟨bw, j, none⟩ (.int .u64 A)).grownBy w1 (some bm)) : Vol w1 bc be bw bm L n (fReg n lo (j + 1) f) (mReg n lo (j + 1) f m) := by
  refine ((h.store j A).marked hm hg).congr (fun i _ => ?_) (fun i _ => ?_)
  · unfold fReg
    by_cases e : i = j
    · subst e; rw [if_pos rfl, if_pos (by omega), hA]
    · rw [if_neg e]
      by_cases c : lo ≤ i ∧ i < j
      · rw [if_pos c, if_pos (by omega)]
      · rw [if_neg c, if_neg (by omega)]
  · unfold mark mReg
    by_cases e : i = j
    · subst e; rw [if_pos rfl, if_pos (by omega)]; rw [hA] at he; simp [he]
    · rw [if_neg e]
      by_cases c : lo ≤ i ∧ i < j
      · rw [if_pos c, if_pos (by omega)]
      · rw [if_neg c, if_neg (by omega)]
theorem Vol.start (h : Vol w bc be bw bm L n f m) : Vol w bc be bw bm L n (fReg n lo lo f) (mReg n lo lo f m) :=
  h.congr (fun i _ => by unfold fReg; rw [if_neg (by omega)]) (fun i _ => by unfold mReg; rw [if_neg (by omega)])
theorem Chg.step {w0 : World} {A : Value} {p : Addr} (h : Chg (fun b => b = bw ∨ b = bm) w0 w) (hp : p.block = bw) (hg : (w.setCell p A).grownBy w1 (some bm)) : Chg (fun b => b = bw ∨ b = bm) w0 w1 :=
  (Chg.setCell h (.inl hp) A).grown hg (fun _ e => .inr (Option.some.inj e).symm)
end

def Regioned (w : World) (bc be bw bm L n k : Nat) (f : Nat → Int) (m : Nat → Bool) (e : Ending) (w' : World) : Prop :=
  e = .returned (.tuple #[]) ∧ Vol w' bc be bw bm L n (fReg n (k - k % 16) (min (k - k % 16 + 16) L) f) (mReg n (k - k % 16) (min (k - k % 16 + 16) L) f m) ∧ Chg (fun b => b = bw ∨ b = bm) w w'

set_option maxHeartbeats 400000 in
theorem bytes24 (a0 a1 : Int) (a2 a3 : Option Addr) (l2 c2 l3 c3 : Nat) (h2 : l2 ≤ maxLen) (h3 : l3 ≤ maxLen) (w : World) :
    Calls Trym.prog 24 #[.int .i64 a0, .int .i64 a1, .slice a2 l2 c2, .slice a3 l3 c3] w fun e w' => (∃ r, e = .returned (.bool r)) ∧ w' = w := by
  unfold maxLen at h2 h3
  go_enter Trym.func24, Trym.ntmps24
  go_wp2
  all_goals
    go_ret
    exact ⟨⟨_, rfl⟩, rfl⟩

/-- what a set that can be reached is known by -/
def Fits (a0 a1 : Int) (l2 : Nat) : Prop := 0 ≤ a0 ∧ a0 ≤ 72057594037927936 ∧ a1 = (a0 + 65535) / 65536 ∧ (l2 : Int) = (a1 + 63) / 64
def Reached (a0 a1 : Int) (l2 : Nat) (e : Ending) : Prop := ∃ r, e = .returned (.bool r) ∧ (r = true → Fits a0 a1 l2)

set_option maxHeartbeats 800000 in
theorem reach8 (a0 a1 : Int) (a2 : Option Addr) (l2 c2 : Nat) (z2 : List Int) (w : World) (w0 : (Lit.int .i64 a0).wf = true) (w1 : (Lit.int .i64 a1).wf = true) (h2 : IsRow .u64 w a2 l2 c2 z2) :
    Calls Trym.prog 8 #[.int .i64 a0, .int .i64 a1, .slice a2 l2 c2] w fun e w' => Reached a0 a1 l2 e ∧ w' = w := by
  obtain ⟨b00, b01⟩ := bounds_i64 w0
  obtain ⟨b10, b11⟩ := bounds_i64 w1
  clear w0 w1
  have hm : l2 ≤ 9223372036854775807 := by
    rcases h2 with ⟨rfl, rfl, rfl, rfl⟩ | ⟨x, rfl, hl, hm, hz, hcell, hwz⟩
    · omega
    · unfold maxLen at hm; omega
  by_cases h0 : a0 < 0
  · go_enter Trym.func8, Trym.ntmps8
    go_wp2
    go_ret
    exact ⟨⟨false, rfl, by simp⟩, rfl⟩
  by_cases h1 : 72057594037927936 < a0
  · go_enter Trym.func8, Trym.ntmps8
    go_wp2
    go_ret
    exact ⟨⟨false, rfl, by simp⟩, rfl⟩
  by_cases he : a1 = (a0 + 65535) / 65536
  · have n0 : 0 ≤ a1 := by omega
    have n1 : a1 ≤ 1099511627777 := by omega
    have e1 : (a1 != (a0 + 65536 - 1) / 65536) = false := by simp; omega
    by_cases hl : (l2 : Int) = (a1 + 63) / 64
    · have e2 : ((l2 : Int) != (a1 + 63) / 64) = false := by simp; omega
      have FIN : Fits a0 a1 l2 := by unfold Fits; omega
      by_cases hp : l2 = 0
      · subst hp
        clear he hl
        go_enter Trym.func8, Trym.ntmps8
        go_wp2
        go_ret
        exact ⟨⟨true, rfl, fun _ => FIN⟩, rfl⟩
      · rcases h2 with ⟨rfl, rfl, rfl, rfl⟩ | ⟨x, rfl, hlc, hmx, hz, hcell, hwz⟩
        · exact absurd rfl hp
        · have c1 := hcell (l2 - 1) (by omega)
          obtain ⟨q, hq⟩ : ∃ q, z2.getD (l2 - 1) 0 = q := ⟨_, rfl⟩
          rw [hq] at c1
          have hp' : 0 < (l2 : Int) := by omega
          have hi : ((l2 : Int) - 1).toNat = l2 - 1 := by omega
          have t0 : 1 ≤ a1 - ((l2 : Int) - 1) * 64 := by omega
          have t1 : a1 - ((l2 : Int) - 1) * 64 ≤ 64 := by omega
          clear he hl hcell hwz hq
          by_cases ht : a1 - ((l2 : Int) - 1) * 64 < 64
          · go_enter Trym.func8, Trym.ntmps8
            go_wp2
            · go_ret
              exact ⟨⟨false, rfl, by simp⟩, rfl⟩
            · go_ret
              exact ⟨⟨true, rfl, fun _ => FIN⟩, rfl⟩
          · go_enter Trym.func8, Trym.ntmps8
            go_wp2
            go_ret
            exact ⟨⟨true, rfl, fun _ => FIN⟩, rfl⟩
    · have e2 : ((l2 : Int) != (a1 + 63) / 64) = true := by simp; omega
      clear he
      go_enter Trym.func8, Trym.ntmps8
      go_wp2
      go_ret
      exact ⟨⟨false, rfl, by simp⟩, rfl⟩
  · have e1 : (a1 != (a0 + 65536 - 1) / 65536) = true := by simp; omega
    go_enter Trym.func8, Trym.ntmps8
    go_wp2
    go_ret
    exact ⟨⟨false, rfl, by simp⟩, rfl⟩

end Go.Proofs.Qxb6608790aMods
