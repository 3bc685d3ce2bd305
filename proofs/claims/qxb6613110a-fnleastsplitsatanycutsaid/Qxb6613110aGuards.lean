/- The guards of the two laws on least. -/
import Derived.Test.Qxb6613110aReads
namespace Go.Proofs.Qxb6613110a
open Go.RowKit
set_option linter.unusedVariables false

set_option maxHeartbeats 1000000 in
theorem bytes9 (v a : Option Addr) (nv cv n cap : Nat) (V : Nat → VW) (S : Nat → ByteArray) (C : Nat → Int) (hv : nv ≤ maxLen) (hn : n ≤ maxLen) (w : World) (hV : ViewO w v nv V) (hS : VEo w a n S C) :
    Calls Try.prog 9 #[.slice v nv cv, .slice a n cap] w fun e w' => SomeBool e ∧ w' = w := by
  unfold maxLen at hn hv
  have HV : Hid (ViewO w v nv V) := hV
  have HS : Hid (VEo w a n S C) := hS
  clear hS hV
  by_cases h1 : nv ≤ 1048576
  · go_enter Try.func9, Try.ntmps9
    go_wp2
    go_loop [5, 6] (fun t i => ∃ (k : Nat) (z : Int), k ≤ nv ∧ i = .int .i64 k ∧ t = .int .i64 z ∧ 0 ≤ z ∧ z ≤ 1048576) (fun _ i => nv - (intOf i).toNat)
    case atStart => exact ⟨0, nv, Nat.zero_le _, rfl, rfl, by omega, by omega⟩
    case round =>
      obtain ⟨k, z, hk, rfl, rfl, hz0, hz1⟩ := hrel
      by_cases hlt : k < nv
      · obtain ⟨ad, rfl, c0, c1, _⟩ := HV.out k hlt
        go_wp2
        all_goals first
          | (go_ret; exact ⟨⟨_, rfl⟩, rfl⟩)
          | (go_round; (case rel => exact ⟨k + 1, _, by omega, by go_num, rfl, by omega, by omega⟩); (case measure => simp [intOf]; omega))
      · go_wp2
        all_goals first
          | (go_ret; exact ⟨⟨_, rfl⟩, rfl⟩)
          | skip
        go_loop [5, 7] (fun t i => ∃ (k : Nat) (z : Int), k ≤ n ∧ i = .int .i64 k ∧ t = .int .i64 z ∧ 0 ≤ z ∧ z ≤ 1048576) (fun _ i => n - (intOf i).toNat)
        case atStart => exact ⟨0, _, Nat.zero_le _, rfl, rfl, by omega, by omega⟩
        case round =>
          obtain ⟨k, z, hk, rfl, rfl, hz0, hz1⟩ := hrel
          by_cases hlt : k < n
          · obtain ⟨ad, rfl, c0, _⟩ := HS.out k hlt
            go_wp2
            all_goals first
              | (go_ret; exact ⟨⟨_, rfl⟩, rfl⟩)
              | (go_round; (case rel => exact ⟨k + 1, _, by omega, by go_num, rfl, by omega, by omega⟩); (case measure => simp [intOf]; omega))
          · go_wp2
            go_ret
            exact ⟨⟨_, rfl⟩, rfl⟩
  · go_enter Try.func9, Try.ntmps9
    go_wp2
    go_ret
    exact ⟨⟨_, rfl⟩, rfl⟩

set_option maxHeartbeats 1000000 in
theorem bytes17 (v a : Option Addr) (nv cv n cap : Nat) (x : Int) (V : Nat → VW) (S : Nat → ByteArray) (C : Nat → Int) (hv : nv ≤ maxLen) (hn : n ≤ maxLen) (w : World) (hV : ViewO w v nv V) (hS : VEo w a n S C) :
    Calls Try.prog 17 #[.slice v nv cv, .slice a n cap, .int .i64 x] w fun e w' => SomeBool e ∧ w' = w := by
  unfold maxLen at hn hv
  have HV : Hid (ViewO w v nv V) := hV
  have HS : Hid (VEo w a n S C) := hS
  clear hS hV
  by_cases h1 : nv ≤ 1048576
  · go_enter Try.func17, Try.ntmps17
    go_wp2
    go_loop [7, 8] (fun t i => ∃ (k : Nat) (z : Int), k ≤ nv ∧ i = .int .i64 k ∧ t = .int .i64 z ∧ 0 ≤ z ∧ z ≤ 1048576) (fun _ i => nv - (intOf i).toNat)
    case atStart => exact ⟨0, nv, Nat.zero_le _, rfl, rfl, by omega, by omega⟩
    case round =>
      obtain ⟨k, z, hk, rfl, rfl, hz0, hz1⟩ := hrel
      by_cases hlt : k < nv
      · obtain ⟨ad, rfl, c0, c1, _⟩ := HV.out k hlt
        go_wp2
        all_goals first
          | (go_ret; exact ⟨⟨_, rfl⟩, rfl⟩)
          | (go_round; (case rel => exact ⟨k + 1, _, by omega, by go_num, rfl, by omega, by omega⟩); (case measure => simp [intOf]; omega))
      · go_wp2
        all_goals first
          | (go_ret; exact ⟨⟨_, rfl⟩, rfl⟩)
          | skip
        go_loop [7, 9] (fun t i => ∃ (k : Nat) (z : Int), k ≤ n ∧ i = .int .i64 k ∧ t = .int .i64 z ∧ 0 ≤ z ∧ z ≤ 1048576) (fun _ i => n - (intOf i).toNat)
        case atStart => exact ⟨0, _, Nat.zero_le _, rfl, rfl, by omega, by omega⟩
        case round =>
          obtain ⟨k, z, hk, rfl, rfl, hz0, hz1⟩ := hrel
          by_cases hlt : k < n
          · obtain ⟨ad, rfl, c0, _⟩ := HS.out k hlt
            go_wp2
            all_goals first
              | (go_ret; exact ⟨⟨_, rfl⟩, rfl⟩)
              | (go_round; (case rel => exact ⟨k + 1, _, by omega, by go_num, rfl, by omega, by omega⟩); (case measure => simp [intOf]; omega))
          · go_wp2
            go_ret
            exact ⟨⟨_, rfl⟩, rfl⟩
  · go_enter Try.func17, Try.ntmps17
    go_wp2
    go_ret
    exact ⟨⟨_, rfl⟩, rfl⟩
end Go.Proofs.Qxb6613110a
