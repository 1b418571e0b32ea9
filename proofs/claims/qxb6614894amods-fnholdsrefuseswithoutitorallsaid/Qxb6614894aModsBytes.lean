import Derived.Test.Qxb6614894aModsHolds
namespace Go.Proofs.Qxb6614894aMods
open Go.ChangeShapes Go.WideShapes Go.ChangeAt Go.RowKit

def Bytes (l : Nat) (e : Ending) : Prop := ∃ r, e = .returned (.bool r) ∧ (r = true → l ≤ 1048576)

set_option maxRecDepth 100000 in
set_option maxHeartbeats 800000 in
theorem bytes5 (a : Option Addr) (l c : Nat) (s : Nat → ByteArray) (k : Int) (p : ByteArray) (w : World) (hl : l ≤ maxLen) (hp : p.size ≤ maxLen) (hs : Strs w a l s) (hz : ∀ i, i < l → (s i).size ≤ maxLen) :
    Calls Trym.prog 5 #[.slice a l c, .int .i64 k, .string p] w fun e w' => Bytes l e ∧ w' = w := by
  have hl' : l ≤ 9223372036854775807 := hl
  have hp' : p.size ≤ 9223372036854775807 := hp
  by_cases h0 : 1048576 < l
  · go_enter Trym.func5, Trym.ntmps5
    go_wp2
    go_ret
    exact ⟨⟨_, rfl, by simp⟩, rfl⟩
  · have hle : l ≤ 1048576 := by omega
    go_enter Trym.func5, Trym.ntmps5
    go_wp2
    go_loop [7, 8] (fun t i => ∃ (j : Nat) (z : Int), j ≤ l ∧ i = .int .i64 j ∧ t = .int .i64 z ∧ 0 ≤ z ∧ z ≤ 1048576) (fun _ i => l - (intOf i).toNat)
    case atStart => exact ⟨0, l, Nat.zero_le _, rfl, rfl, by omega, by omega⟩
    case round =>
      obtain ⟨j, z, hj, rfl, rfl, hz0, hz1⟩ := hrel
      by_cases hlt : j < l
      · obtain ⟨x, rfl, hcell⟩ := hs (by omega)
        have hc := hcell j hlt
        obtain ⟨q, hq⟩ : ∃ q, s j = q := ⟨_, rfl⟩
        have hsz : q.size ≤ 9223372036854775807 := by rw [← hq]; exact hz j hlt
        rw [hq] at hc
        clear hcell hs hz hq
        by_cases h1 : 1048576 < q.size
        · go_wp2
          go_ret
          exact ⟨⟨_, rfl, by simp⟩, rfl⟩
        · by_cases h2 : 1048576 < z + q.size
          · go_wp2
            go_ret
            exact ⟨⟨_, rfl, by simp⟩, rfl⟩
          · go_wp2
            go_round
            case rel => exact ⟨j + 1, z + q.size, by omega, by go_num, rfl, by omega, by omega⟩
            case measure => simp [intOf]; omega
      · by_cases h1 : 1048576 < p.size
        · go_wp2
          go_ret
          exact ⟨⟨_, rfl, by simp⟩, rfl⟩
        · by_cases h2 : 1048576 < z + p.size
          · go_wp2
            go_ret
            exact ⟨⟨_, rfl, by simp⟩, rfl⟩
          · go_wp2
            go_ret
            exact ⟨⟨_, rfl, fun _ => hle⟩, rfl⟩

set_option maxRecDepth 100000 in
set_option maxHeartbeats 800000 in
theorem bytes9 (a : Option Addr) (l c : Nat) (s : Nat → ByteArray) (k : Int) (p : ByteArray) (w : World) (hl : l ≤ maxLen) (hp : p.size ≤ maxLen) (hs : Strs w a l s) (hz : ∀ i, i < l → (s i).size ≤ maxLen) :
    Calls Trym.prog 9 #[.slice a l c, .int .i64 k, .string p] w fun e w' => Bytes l e ∧ w' = w := by
  have hl' : l ≤ 9223372036854775807 := hl
  have hp' : p.size ≤ 9223372036854775807 := hp
  by_cases h0 : 1048576 < l
  · go_enter Trym.func9, Trym.ntmps9
    go_wp2
    go_ret
    exact ⟨⟨_, rfl, by simp⟩, rfl⟩
  · have hle : l ≤ 1048576 := by omega
    go_enter Trym.func9, Trym.ntmps9
    go_wp2
    go_loop [7, 8] (fun t i => ∃ (j : Nat) (z : Int), j ≤ l ∧ i = .int .i64 j ∧ t = .int .i64 z ∧ 0 ≤ z ∧ z ≤ 1048576) (fun _ i => l - (intOf i).toNat)
    case atStart => exact ⟨0, l, Nat.zero_le _, rfl, rfl, by omega, by omega⟩
    case round =>
      obtain ⟨j, z, hj, rfl, rfl, hz0, hz1⟩ := hrel
      by_cases hlt : j < l
      · obtain ⟨x, rfl, hcell⟩ := hs (by omega)
        have hc := hcell j hlt
        obtain ⟨q, hq⟩ : ∃ q, s j = q := ⟨_, rfl⟩
        have hsz : q.size ≤ 9223372036854775807 := by rw [← hq]; exact hz j hlt
        rw [hq] at hc
        clear hcell hs hz hq
        by_cases h1 : 1048576 < q.size
        · go_wp2
          go_ret
          exact ⟨⟨_, rfl, by simp⟩, rfl⟩
        · by_cases h2 : 1048576 < z + q.size
          · go_wp2
            go_ret
            exact ⟨⟨_, rfl, by simp⟩, rfl⟩
          · go_wp2
            go_round
            case rel => exact ⟨j + 1, z + q.size, by omega, by go_num, rfl, by omega, by omega⟩
            case measure => simp [intOf]; omega
      · by_cases h1 : 1048576 < p.size
        · go_wp2
          go_ret
          exact ⟨⟨_, rfl, by simp⟩, rfl⟩
        · by_cases h2 : 1048576 < z + p.size
          · go_wp2
            go_ret
            exact ⟨⟨_, rfl, by simp⟩, rfl⟩
          · go_wp2
            go_ret
            exact ⟨⟨_, rfl, fun _ => hle⟩, rfl⟩

end Go.Proofs.Qxb6614894aMods
