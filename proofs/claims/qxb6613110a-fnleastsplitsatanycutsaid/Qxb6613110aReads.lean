/- The functions that only read: the guards zzBytes.., sizeOK, vecOK, and lookup. -/
import Derived.Test.Qxb6613110aRows
import Derived.Test.Qxb6613110aPlain
import Derived.WalkKit
import Derived.WalkLawsBesides
import Derived.Deep.QuietTactic
import Derived.BigQuiet
namespace Go.Proofs.Qxb6613110a
open Go.RowKit

/-- n entries {string, uint64} behind a slice's address (of no entry nothing is asked) -/
def VEo (w : World) (a : Option Addr) (n : Nat) (S : Nat → ByteArray) (C : Nat → Int) : Prop :=
  ∀ i, i < n → ∃ ad : Addr, a = some ad ∧ w.cell? (ad.add (i * 2)) = some (.string (S i)) ∧ w.cell? ⟨(ad.add (i * 2)).block, (ad.add (i * 2)).off + 1, none⟩ = some (.int .u64 (C i))
/-- n strings behind a slice's address -/
def StrO (w : World) (a : Option Addr) (n : Nat) (S : Nat → ByteArray) : Prop := ∀ i, i < n → ∃ ad : Addr, a = some ad ∧ w.cell? (ad.add i) = some (.string (S i))
/-- one entry of a view -/
structure VW where
  id : ByteArray
  st : ByteArray
  inc : Int
  sus : Bool
  sd : Int
  gone : Int
/-- n entries of a view behind a slice's address -/
def ViewO (w : World) (a : Option Addr) (n : Nat) (V : Nat → VW) : Prop :=
  ∀ i, i < n → ∃ ad : Addr, a = some ad ∧ w.cell? (ad.add (i * 6)) = some (.string (V i).id) ∧ w.cell? ⟨(ad.add (i * 6)).block, (ad.add (i * 6)).off + 1, none⟩ = some (.string (V i).st) ∧
    w.cell? ⟨(ad.add (i * 6)).block, (ad.add (i * 6)).off + 2, none⟩ = some (.int .u64 (V i).inc) ∧ w.cell? ⟨(ad.add (i * 6)).block, (ad.add (i * 6)).off + 3, none⟩ = some (.bool (V i).sus) ∧
    w.cell? ⟨(ad.add (i * 6)).block, (ad.add (i * 6)).off + 4, none⟩ = some (.int .u64 (V i).sd) ∧ w.cell? ⟨(ad.add (i * 6)).block, (ad.add (i * 6)).off + 5, none⟩ = some (.int .u64 (V i).gone)

/-- some bool comes back -/
def SomeBool (e : Ending) : Prop := ∃ b, e = .returned (.bool b)

theorem vecOK_any (a : Option Addr) (n cap : Nat) (S : Nat → ByteArray) (C : Nat → Int) (hn : n ≤ 1048576) (w : World) (hS : VEo w a n S C) :
    Calls Try.prog 12 #[.slice a n cap] w fun e w' => ∃ b, e = .returned (.bool b) ∧ (b = true → Asc n S) ∧ ∃ q, w' = w.drewN q := by
  have HS : Hid (VEo w a n S C) := hS
  clear hS
  go_enter Try.func12, Try.ntmps12
  go_wp2
  go_loopw [3] (fun i wr => ∃ (k q : Nat), i = .int .i64 (k + 1) ∧ wr = w.drewN q ∧ Hid (∀ i, i < k → i + 1 < n → sLess (S i) (S (i + 1)) = true)) (fun i _ => n - (intOf i).toNat)
  case atStart => exact ⟨0, 0, rfl, rfl, fun i hi => absurd hi (by omega)⟩
  case round =>
    obtain ⟨k, q, rfl, rfl, H⟩ := hrel
    by_cases hlt : k + 1 < n
    · obtain ⟨ad, rfl, h1, _⟩ := HS.out k (by omega)
      obtain ⟨ad', e', h2, _⟩ := HS.out (k + 1) (by omega)
      obtain rfl := Option.some.inj e'
      clear e'
      cases hb : Op.bytesLess (S k).toList (S (k + 1)).toList
      · go_wp2_with fail
        go_quiet (fail)
        go_wp2
        go_ret
        exact ⟨false, rfl, (fun h => by cases h), q + nq, by first | rfl | rw [World.drewN_drewN]⟩
      · have HB : Hid (Op.bytesLess (S k).toList (S (k + 1)).toList = true) := hb
        go_wp2_with fail
        go_quiet (fail)
        go_wp2
        go_roundw
        case rel =>
          refine ⟨k + 1, q + nq, by go_num, by first | rfl | rw [World.drewN_drewN], fun i hi hin => ?_⟩
          by_cases e : i = k
          · subst e; exact HB.out
          · exact H.out i (by omega) hin
        case measure => simp [intOf]; omega
    · go_wp2
      go_ret
      exact ⟨_, rfl, fun _ i hi => H.out i (by omega) hi, q, rfl⟩

theorem lookup_any (a : Option Addr) (n cap : Nat) (S : Nat → ByteArray) (C : Nat → Int) (m : ByteArray) (hn : n ≤ 1048576) (w : World) (hS : VEo w a n S C) :
    Calls Try.prog 16 #[.slice a n cap, .string m] w fun e w' => ∃ c, e = .returned (.int .u64 c) ∧ Reads n S C m c ∧ w' = w := by
  have HS : Hid (VEo w a n S C) := hS
  clear hS
  go_enter Try.func16, Try.ntmps16
  go_wp2
  go_loop [5] (fun i => ∃ k : Nat, k ≤ n ∧ i = .int .i64 k ∧ Hid (∀ i, i < k → S i ≠ m)) (fun i => n - (intOf i).toNat)
  case atStart => exact ⟨0, Nat.zero_le _, rfl, fun i hi => absurd hi (by omega)⟩
  case round =>
    obtain ⟨k, hk, rfl, H⟩ := hrel
    by_cases hlt : k < n
    · obtain ⟨ad, rfl, h1, h2⟩ := HS.out k (by omega)
      cases hb : ((S k).toList == m.toList)
      · have HB : Hid (((S k).toList == m.toList) = false) := hb
        go_wp2
        go_round
        case rel =>
          refine ⟨k + 1, by omega, by go_num, fun i hi => ?_⟩
          by_cases e : i = k
          · subst e; intro e2; rw [e2] at HB; simp [Hid] at HB
          · exact H.out i (by omega)
        case measure => simp [intOf]; omega
      · have HB : Hid (((S k).toList == m.toList) = true) := hb
        go_wp2
        go_ret
        exact ⟨_, rfl, .inl ⟨k, hlt, toList_inj (beq_iff_eq.1 HB.out), rfl⟩, rfl⟩
    · go_wp2
      go_ret
      exact ⟨_, rfl, .inr ⟨fun i hi => H.out i (by omega), rfl⟩, rfl⟩

theorem bytes29 (a q : Option Addr) (n cap l lc : Nat) (S Q : Nat → ByteArray) (C : Nat → Int) (hn : n ≤ maxLen) (hl : l ≤ maxLen) (w : World) (hS : VEo w a n S C) (hQ : StrO w q l Q) :
    Calls Try.prog 29 #[.slice a n cap, .slice q l lc] w fun e w' => SomeBool e ∧ w' = w := by
  unfold maxLen at hn hl
  have HS : Hid (VEo w a n S C) := hS
  have HQ : Hid (StrO w q l Q) := hQ
  clear hS hQ
  by_cases h1 : n ≤ 1048576
  · go_enter Try.func29, Try.ntmps29
    go_wp2
    go_loop [5, 6] (fun t i => ∃ (k : Nat) (z : Int), k ≤ n ∧ i = .int .i64 k ∧ t = .int .i64 z ∧ 0 ≤ z ∧ z ≤ 1048576) (fun _ i => n - (intOf i).toNat)
    case atStart => exact ⟨0, n, Nat.zero_le _, rfl, rfl, by omega, by omega⟩
    case round =>
      obtain ⟨k, z, hk, rfl, rfl, hz0, hz1⟩ := hrel
      by_cases hlt : k < n
      · obtain ⟨ad, rfl, hc⟩ := HS.out k hlt
        have h1 : w.cell? (ad.add (k * 2)) = some (.string (S k)) := hc.1
        clear hc
        go_wp2
        all_goals first
          | (go_ret; exact ⟨⟨_, rfl⟩, rfl⟩)
          | (go_round; (case rel => exact ⟨k + 1, _, by omega, by go_num, rfl, by omega, by omega⟩); (case measure => simp [intOf]; omega))
      · go_wp2
        all_goals first
          | (go_ret; exact ⟨⟨_, rfl⟩, rfl⟩)
          | skip
        go_loop [5, 7] (fun t i => ∃ (k : Nat) (z : Int), k ≤ l ∧ i = .int .i64 k ∧ t = .int .i64 z ∧ 0 ≤ z ∧ z ≤ 1048576) (fun _ i => l - (intOf i).toNat)
        case atStart => exact ⟨0, _, Nat.zero_le _, rfl, rfl, by omega, by omega⟩
        case round =>
          obtain ⟨k, z, hk, rfl, rfl, hz0, hz1⟩ := hrel
          by_cases hlt : k < l
          · obtain ⟨aq, rfl, h1⟩ := HQ.out k hlt
            go_wp2
            all_goals first
              | (go_ret; exact ⟨⟨_, rfl⟩, rfl⟩)
              | (go_round; (case rel => exact ⟨k + 1, _, by omega, by go_num, rfl, by omega, by omega⟩); (case measure => simp [intOf]; omega))
          · go_wp2
            go_ret
            exact ⟨⟨_, rfl⟩, rfl⟩
  · go_enter Try.func29, Try.ntmps29
    go_wp2
    go_ret
    exact ⟨⟨_, rfl⟩, rfl⟩

theorem bytes32 (a q : Option Addr) (n cap l lc : Nat) (x : Int) (S Q : Nat → ByteArray) (C : Nat → Int) (hn : n ≤ maxLen) (hl : l ≤ maxLen) (w : World) (hS : VEo w a n S C) (hQ : StrO w q l Q) :
    Calls Try.prog 32 #[.slice a n cap, .int .i64 x, .slice q l lc] w fun e w' => SomeBool e ∧ w' = w := by
  unfold maxLen at hn hl
  have HS : Hid (VEo w a n S C) := hS
  have HQ : Hid (StrO w q l Q) := hQ
  clear hS hQ
  by_cases h1 : n ≤ 1048576
  · go_enter Try.func32, Try.ntmps32
    go_wp2
    go_loop [7, 8] (fun t i => ∃ (k : Nat) (z : Int), k ≤ n ∧ i = .int .i64 k ∧ t = .int .i64 z ∧ 0 ≤ z ∧ z ≤ 1048576) (fun _ i => n - (intOf i).toNat)
    case atStart => exact ⟨0, n, Nat.zero_le _, rfl, rfl, by omega, by omega⟩
    case round =>
      obtain ⟨k, z, hk, rfl, rfl, hz0, hz1⟩ := hrel
      by_cases hlt : k < n
      · obtain ⟨ad, rfl, hc⟩ := HS.out k hlt
        have h1 : w.cell? (ad.add (k * 2)) = some (.string (S k)) := hc.1
        clear hc
        go_wp2
        all_goals first
          | (go_ret; exact ⟨⟨_, rfl⟩, rfl⟩)
          | (go_round; (case rel => exact ⟨k + 1, _, by omega, by go_num, rfl, by omega, by omega⟩); (case measure => simp [intOf]; omega))
      · go_wp2
        all_goals first
          | (go_ret; exact ⟨⟨_, rfl⟩, rfl⟩)
          | skip
        go_loop [7, 9] (fun t i => ∃ (k : Nat) (z : Int), k ≤ l ∧ i = .int .i64 k ∧ t = .int .i64 z ∧ 0 ≤ z ∧ z ≤ 1048576) (fun _ i => l - (intOf i).toNat)
        case atStart => exact ⟨0, _, Nat.zero_le _, rfl, rfl, by omega, by omega⟩
        case round =>
          obtain ⟨k, z, hk, rfl, rfl, hz0, hz1⟩ := hrel
          by_cases hlt : k < l
          · obtain ⟨aq, rfl, h1⟩ := HQ.out k hlt
            go_wp2
            all_goals first
              | (go_ret; exact ⟨⟨_, rfl⟩, rfl⟩)
              | (go_round; (case rel => exact ⟨k + 1, _, by omega, by go_num, rfl, by omega, by omega⟩); (case measure => simp [intOf]; omega))
          · go_wp2
            go_ret
            exact ⟨⟨_, rfl⟩, rfl⟩
  · go_enter Try.func32, Try.ntmps32
    go_wp2
    go_ret
    exact ⟨⟨_, rfl⟩, rfl⟩

end Go.Proofs.Qxb6613110a
