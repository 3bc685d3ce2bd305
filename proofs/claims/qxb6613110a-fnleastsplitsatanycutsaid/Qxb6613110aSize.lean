/- sizeOK: it reads, and answers some bool. -/
import Derived.Test.Qxb6613110aReads
namespace Go.Proofs.Qxb6613110a
open Go.RowKit

set_option maxHeartbeats 1000000 in
theorem sizeOK_any (v a b q : Option Addr) (nv cv n cap nb cb l lc : Nat) (V : Nat → VW) (S T Q : Nat → ByteArray) (C D : Nat → Int) (hv : nv ≤ 1048576) (hn : n ≤ 1048576) (hb : nb ≤ 1048576) (hl : l ≤ 1048576)
    (w : World) (hV : ViewO w v nv V) (hS : VEo w a n S C) (hT : VEo w b nb T D) (hQ : StrO w q l Q) :
    Calls Try.prog 10 #[.slice v nv cv, .slice a n cap, .slice b nb cb, .slice q l lc, .int .i64 0] w fun e w' => SomeBool e ∧ ∃ q, w' = w.drewN q := by
  have HV : Hid (ViewO w v nv V) := hV
  have HS : Hid (VEo w a n S C) := hS
  have HT : Hid (VEo w b nb T D) := hT
  have HQ : Hid (StrO w q l Q) := hQ
  clear hV hS hT hQ
  go_enter Try.func10, Try.ntmps10
  go_wp2
  go_loopw [11, 12] (fun t i wr => ∃ (k p : Nat) (z : Int), k ≤ nv ∧ i = .int .i64 k ∧ t = .int .i64 z ∧ wr = w.drewN p) (fun _ i _ => nv - (intOf i).toNat)
  case atStart => exact ⟨0, 0, 0, Nat.zero_le _, rfl, rfl, rfl⟩
  case round =>
    obtain ⟨k, p, z, hk, rfl, rfl, rfl⟩ := hrel
    by_cases hlt : k < nv
    · obtain ⟨ad, rfl, h1, h2, _⟩ := HV.out k hlt
      go_wp2_with fail
      go_quiet (fail)
      go_wp2
      all_goals first
        | (go_ret; exact ⟨⟨_, rfl⟩, p + nq, by first | rfl | rw [World.drewN_drewN]⟩)
        | (go_roundw; (case rel => exact ⟨k + 1, p + nq, _, by omega, by go_num, rfl, by first | rfl | rw [World.drewN_drewN]⟩); (case measure => simp [intOf]; omega))
    · go_wp2
      go_loop [11, 13] (fun t i => ∃ (k : Nat) (z : Int), k ≤ n ∧ i = .int .i64 k ∧ t = .int .i64 z) (fun _ i => n - (intOf i).toNat)
      case atStart => exact ⟨0, _, Nat.zero_le _, rfl, rfl⟩
      case round =>
        obtain ⟨k, z, hk, rfl, rfl⟩ := hrel
        by_cases hlt : k < n
        · obtain ⟨ad, rfl, h1, h2⟩ := HS.out k hlt
          go_wp2
          all_goals first
            | (go_ret; exact ⟨⟨_, rfl⟩, p, rfl⟩)
            | (go_round; (case rel => exact ⟨k + 1, _, by omega, by go_num, rfl⟩); (case measure => simp [intOf]; omega))
        · go_wp2
          go_loop [11, 14] (fun t i => ∃ (k : Nat) (z : Int), k ≤ nb ∧ i = .int .i64 k ∧ t = .int .i64 z) (fun _ i => nb - (intOf i).toNat)
          case atStart => exact ⟨0, _, Nat.zero_le _, rfl, rfl⟩
          case round =>
            obtain ⟨k, z, hk, rfl, rfl⟩ := hrel
            by_cases hlt : k < nb
            · obtain ⟨ad, rfl, h1, h2⟩ := HT.out k hlt
              go_wp2
              all_goals first
                | (go_ret; exact ⟨⟨_, rfl⟩, p, rfl⟩)
                | (go_round; (case rel => exact ⟨k + 1, _, by omega, by go_num, rfl⟩); (case measure => simp [intOf]; omega))
            · go_wp2
              go_loop [11, 15] (fun t i => ∃ (k : Nat) (z : Int), k ≤ l ∧ i = .int .i64 k ∧ t = .int .i64 z) (fun _ i => l - (intOf i).toNat)
              case atStart => exact ⟨0, _, Nat.zero_le _, rfl, rfl⟩
              case round =>
                obtain ⟨k, z, hk, rfl, rfl⟩ := hrel
                by_cases hlt : k < l
                · obtain ⟨ad, rfl, h1⟩ := HQ.out k hlt
                  go_wp2
                  all_goals first
                    | (go_ret; exact ⟨⟨_, rfl⟩, p, rfl⟩)
                    | (go_round; (case rel => exact ⟨k + 1, _, by omega, by go_num, rfl⟩); (case measure => simp [intOf]; omega))
                · go_wp2
                  go_ret
                  exact ⟨⟨_, rfl⟩, p, rfl⟩
end Go.Proofs.Qxb6613110a
