/- sameKey and heldReachable. -/
import Derived.Test.Qxb6613072aMsgs
namespace Go.Proofs.Qxb6613072a
open Go.RowKit

/-- two messages with one key -/
def keyEq (m m' : HM) : Bool := (m.o.toList == m'.o.toList) && (m.ty == m'.ty) && (m.ref == m'.ref) && (m.tot == m'.tot) && (m.el == m'.el)

/-- the five key cells of a message at p -/
def KeyAt (w : World) (p : Addr) (m : HM) : Prop :=
  w.cell? p = some (.string m.o) ∧ w.cell? ⟨p.block, p.off + 1, none⟩ = some (.int .u8 m.ty) ∧ w.cell? ⟨p.block, p.off + 2, none⟩ = some (.int .i64 m.ref) ∧ w.cell? ⟨p.block, p.off + 3, none⟩ = some (.int .i64 m.tot) ∧ w.cell? ⟨p.block, p.off + 4, none⟩ = some (.int .u8 m.el)

set_option maxHeartbeats 1000000 in
set_option maxRecDepth 100000 in
theorem same24 (p p' : Addr) (m m' : HM) (w : World) (h : KeyAt w p m) (h' : KeyAt w p' m') :
    Calls Try.prog 24 #[.pointer (some p), .pointer (some p')] w fun e w' => e = .returned (.bool (keyEq m m')) ∧ ∃ q, w' = w.drewN q := by
  obtain ⟨a0, a1, a2, a3, a4⟩ := h
  obtain ⟨b0, b1, b2, b3, b4⟩ := h'
  unfold keyEq
  cases d0 : (m.o.toList == m'.o.toList) with
  | false =>
    go_enter Try.func24, Try.ntmps24
    go_wp2_with fail
    go_quiet (fail)
    go_wp2
    go_ret
    exact ⟨rfl, nq, rfl⟩
  | true =>
    cases d1 : (m.ty == m'.ty) with
    | false =>
      go_enter Try.func24, Try.ntmps24
      go_wp2_with fail
      go_quiet (fail)
      go_wp2
      go_ret
      exact ⟨rfl, nq, rfl⟩
    | true =>
      cases d2 : (m.ref == m'.ref) with
      | false =>
        go_enter Try.func24, Try.ntmps24
        go_wp2_with fail
        go_quiet (fail)
        go_wp2
        go_ret
        exact ⟨rfl, nq, rfl⟩
      | true =>
        cases d3 : (m.tot == m'.tot) with
        | false =>
          go_enter Try.func24, Try.ntmps24
          go_wp2_with fail
          go_quiet (fail)
          go_wp2
          go_ret
          exact ⟨rfl, nq, rfl⟩
        | true =>
          cases d4 : (m.el == m'.el) with
          | false =>
            go_enter Try.func24, Try.ntmps24
            go_wp2_with fail
            go_quiet (fail)
            go_wp2
            go_ret
            exact ⟨rfl, nq, rfl⟩
          | true =>
            go_enter Try.func24, Try.ntmps24
            go_wp2_with fail
            go_quiet (fail)
            go_wp2
            go_ret
            exact ⟨rfl, nq, rfl⟩

/-- a bool that, where it is true, says P -/
def BoolThat (P : Prop) (e : Ending) : Prop := ∃ b, e = .returned (.bool b) ∧ (b = true → P)

/-- what heldReachable has found of the first n messages, as far as the law uses it -/
def ReachTo (M : Nat → HM) (n : Nat) : Prop := ∀ i, i < n → (M i).sn ≤ 254 ∧ ∀ k, k < i → keyEq (M k) (M i) = false

theorem MsgO.key {w : World} {ad : Addr} {n i : Nat} {M : Nat → HM} (h : MsgO w (some ad) n M) (hi : i < n) : KeyAt w (ad.add (i * 7)) (M i) := by
  obtain ⟨ad', e, c0, c1, c2, c3, c4, _⟩ := h i hi
  cases e
  exact ⟨c0, c1, c2, c3, c4⟩

set_option maxHeartbeats 2000000 in
set_option maxRecDepth 100000 in
theorem reach14 (a : Option Addr) (n cap : Nat) (M : Nat → HM) (hn : n ≤ 4096) (hl : ∀ i, i < n → (M i).sn ≤ maxLen) (w : World) (hS : MsgO w a n M) :
    Calls Try.prog 14 #[.slice a n cap] w fun e w' => BoolThat (ReachTo M n) e ∧ ∃ q, w' = w.drewN q := by
  have HS : Hid (MsgO w a n M) := hS
  have HL : Hid (∀ i, i < n → (M i).sn ≤ maxLen) := hl
  clear hS hl
  go_enter Try.func14, Try.ntmps14
  go_wp2
  go_loopw [10] (fun i wr => ∃ (k q : Nat), k ≤ n ∧ i = .int .i64 k ∧ wr = w.drewN q ∧ Hid (ReachTo M k)) (fun i _ => n - (intOf i).toNat)
  case atStart => exact ⟨0, 0, Nat.zero_le _, rfl, rfl, fun i hi => absurd hi (by omega)⟩
  case round =>
    obtain ⟨k, q, hk, rfl, rfl, HR⟩ := hrel
    by_cases hlt : k < n
    · obtain ⟨ad, rfl, c0, c1, c2, c3, c4, c5, c6, c7⟩ := HS.out k hlt
      have l2 := HL.out k hlt
      unfold maxLen at l2
      have H7 : Hid (∀ t, t < (M k).sn → ∃ sad : Addr, (M k).sa = some sad ∧ w.cell? (sad.add t) = some (.int .i64 ((M k).q t))) := c7
      clear c0 c1 c6 c7
      obtain ⟨m, hm⟩ : ∃ m, M k = m := ⟨_, rfl⟩
      rw [hm] at c2 c3 c4 c5 l2 H7
      have HM : Hid (M k = m) := hm
      clear hm
      by_cases g1 : 2 ≤ m.tot ∧ m.tot ≤ 255 ∧ (m.el = 0 ∨ m.el = 8) ∧ 0 ≤ m.ref ∧ m.ref ≤ 65535 ∧ (m.el = 0 → m.ref ≤ 255)
      · obtain ⟨t0, t1, te, r0, r1, r2⟩ := g1
        have d1 : decide (m.tot < 2) = false := by simp; omega
        have d2 : decide (255 < m.tot) = false := by simp; omega
        have d3 : decide (m.ref < 0) = false := by simp; omega
        have d4 : decide (65535 < m.ref) = false := by simp; omega
        rcases te with te | te
        · have d5 : decide (255 < m.ref) = false := by have := r2 te; simp; omega
          clear r2
          go_wp2_with fail
          by_cases s1 : 1 ≤ m.sn
          · have f1 : decide ((m.sn : Int) < 1) = false := by simp; omega
            by_cases s2 : (m.sn : Int) < m.tot
            · have f2 : decide (m.tot ≤ (m.sn : Int)) = false := by simp; omega
              go_quiet (fail)
              go_wp2
              go_loopw [5, 89] (fun pv t wr => ∃ (j q2 : Nat) (x : Int), j ≤ m.sn ∧ t = .int .i64 j ∧ pv = .int .i64 x ∧ wr = w.drewN q2) (fun _ t _ => m.sn - (intOf t).toNat)
              case atStart => exact ⟨0, q + nq, 0, Nat.zero_le _, rfl, rfl, by first | rfl | rw [World.drewN_drewN]⟩
              case round =>
                obtain ⟨j, q2, x, hj, rfl, rfl, rfl⟩ := hrel
                by_cases hjt : j < m.sn
                · obtain ⟨sad, esa, cs⟩ := H7.out j hjt
                  have c5' := c5
                  rw [esa] at c5'
                  clear c5 esa
                  by_cases x1 : m.q j ≤ x
                  · have y1 : decide (m.q j ≤ x) = true := by simp; omega
                    go_wp2_with fail
                    go_quiet (fail)
                    go_wp2
                    go_ret
                    exact ⟨⟨_, rfl, (fun h => by cases h)⟩, q2 + nq, by first | rfl | rw [World.drewN_drewN]⟩
                  · have y1 : decide (m.q j ≤ x) = false := by simp; omega
                    by_cases x2 : m.tot < m.q j
                    · have y2 : decide (m.tot < m.q j) = true := by simp; omega
                      go_wp2_with fail
                      go_quiet (fail)
                      go_wp2
                      go_ret
                      exact ⟨⟨_, rfl, (fun h => by cases h)⟩, q2 + nq, by first | rfl | rw [World.drewN_drewN]⟩
                    · have y2 : decide (m.tot < m.q j) = false := by simp; omega
                      go_wp2_with fail
                      go_quiet (fail)
                      go_wp2
                      go_roundw
                      case rel => exact ⟨j + 1, q2 + nq, _, by omega, by go_num, rfl, by first | rfl | rw [World.drewN_drewN]⟩
                      case measure => simp [intOf]; omega
                · go_wp2
                  go_loopw [7] (fun t wr => ∃ (i q3 : Nat), i ≤ k ∧ t = .int .i64 i ∧ wr = w.drewN q3 ∧ Hid (∀ r, r < i → keyEq (M r) (M k) = false)) (fun t _ => k - (intOf t).toNat)
                  case atStart => exact ⟨0, q2, Nat.zero_le _, rfl, rfl, fun r hr => absurd hr (by omega)⟩
                  case round =>
                    obtain ⟨i, q3, hik, rfl, rfl, HK⟩ := hrel
                    by_cases hil : i < k
                    · have hS := same24 (ad.add (i * 7)) (ad.add (k * 7)) (M i) (M k) (w.drewN q3) (HS.out.key (by omega)) (HS.out.key hlt)
                      have HSc : Hid (Calls Try.prog 24 #[.pointer (some (ad.add (i * 7))), .pointer (some (ad.add (k * 7)))] (w.drewN q3) fun e w' => e = .returned (.bool (keyEq (M i) (M k))) ∧ ∃ q, w' = (w.drewN q3).drewN q) := hS
                      clear hS
                      cases hke : keyEq (M i) (M k) with
                      | true =>
                        have HSt := HSc.out
                        rw [hke] at HSt
                        clear HSc hke
                        go_wp2_with (go_at_call 24; refine HSt.mono ?_; clear HSt; rintro e w' ⟨rfl, q4, rfl⟩)
                        go_ret
                        exact ⟨⟨_, rfl, (fun h => by cases h)⟩, q3 + q4, by first | rfl | rw [World.drewN_drewN]⟩
                      | false =>
                        have HSt := HSc.out
                        rw [hke] at HSt
                        have HKE : Hid (keyEq (M i) (M k) = false) := hke
                        clear HSc hke
                        go_wp2_with (go_at_call 24; refine HSt.mono ?_; clear HSt; rintro e w' ⟨rfl, q4, rfl⟩)
                        go_roundw
                        case rel =>
                          refine ⟨i + 1, q3 + q4, by omega, by go_num, by first | rfl | rw [World.drewN_drewN], fun r hr => ?_⟩
                          by_cases e : r = i
                          · rw [e]; exact HKE.out
                          · exact HK.out r (by omega)
                        case measure => simp [intOf]; omega
                    · go_wp2
                      go_roundw
                      case rel =>
                        refine ⟨k + 1, q3, by omega, by go_num, rfl, fun i' hi' => ?_⟩
                        by_cases e : i' = k
                        · subst e
                          rw [HM.out]
                          exact ⟨by omega, fun r hr => by rw [← HM.out]; exact HK.out r (by omega)⟩
                        · exact HR.out i' (by omega)
                      case measure => simp [intOf]; omega
            · have f2 : decide (m.tot ≤ (m.sn : Int)) = true := by simp; omega
              go_quiet (fail)
              go_wp2
              go_ret
              exact ⟨⟨_, rfl, (fun h => by cases h)⟩, q + nq, by first | rfl | rw [World.drewN_drewN]⟩
          · have f1 : decide ((m.sn : Int) < 1) = true := by simp; omega
            go_quiet (fail)
            go_wp2
            go_ret
            exact ⟨⟨_, rfl, (fun h => by cases h)⟩, q + nq, by first | rfl | rw [World.drewN_drewN]⟩
        · have d5 : (m.el == 0) = false := by simp [te]
          clear r2
          go_wp2_with fail
          by_cases s1 : 1 ≤ m.sn
          · have f1 : decide ((m.sn : Int) < 1) = false := by simp; omega
            by_cases s2 : (m.sn : Int) < m.tot
            · have f2 : decide (m.tot ≤ (m.sn : Int)) = false := by simp; omega
              go_quiet (fail)
              go_wp2
              go_loopw [5, 89] (fun pv t wr => ∃ (j q2 : Nat) (x : Int), j ≤ m.sn ∧ t = .int .i64 j ∧ pv = .int .i64 x ∧ wr = w.drewN q2) (fun _ t _ => m.sn - (intOf t).toNat)
              case atStart => exact ⟨0, q + nq, 0, Nat.zero_le _, rfl, rfl, by first | rfl | rw [World.drewN_drewN]⟩
              case round =>
                obtain ⟨j, q2, x, hj, rfl, rfl, rfl⟩ := hrel
                by_cases hjt : j < m.sn
                · obtain ⟨sad, esa, cs⟩ := H7.out j hjt
                  have c5' := c5
                  rw [esa] at c5'
                  clear c5 esa
                  by_cases x1 : m.q j ≤ x
                  · have y1 : decide (m.q j ≤ x) = true := by simp; omega
                    go_wp2_with fail
                    go_quiet (fail)
                    go_wp2
                    go_ret
                    exact ⟨⟨_, rfl, (fun h => by cases h)⟩, q2 + nq, by first | rfl | rw [World.drewN_drewN]⟩
                  · have y1 : decide (m.q j ≤ x) = false := by simp; omega
                    by_cases x2 : m.tot < m.q j
                    · have y2 : decide (m.tot < m.q j) = true := by simp; omega
                      go_wp2_with fail
                      go_quiet (fail)
                      go_wp2
                      go_ret
                      exact ⟨⟨_, rfl, (fun h => by cases h)⟩, q2 + nq, by first | rfl | rw [World.drewN_drewN]⟩
                    · have y2 : decide (m.tot < m.q j) = false := by simp; omega
                      go_wp2_with fail
                      go_quiet (fail)
                      go_wp2
                      go_roundw
                      case rel => exact ⟨j + 1, q2 + nq, _, by omega, by go_num, rfl, by first | rfl | rw [World.drewN_drewN]⟩
                      case measure => simp [intOf]; omega
                · go_wp2
                  go_loopw [7] (fun t wr => ∃ (i q3 : Nat), i ≤ k ∧ t = .int .i64 i ∧ wr = w.drewN q3 ∧ Hid (∀ r, r < i → keyEq (M r) (M k) = false)) (fun t _ => k - (intOf t).toNat)
                  case atStart => exact ⟨0, q2, Nat.zero_le _, rfl, rfl, fun r hr => absurd hr (by omega)⟩
                  case round =>
                    obtain ⟨i, q3, hik, rfl, rfl, HK⟩ := hrel
                    by_cases hil : i < k
                    · have hS := same24 (ad.add (i * 7)) (ad.add (k * 7)) (M i) (M k) (w.drewN q3) (HS.out.key (by omega)) (HS.out.key hlt)
                      have HSc : Hid (Calls Try.prog 24 #[.pointer (some (ad.add (i * 7))), .pointer (some (ad.add (k * 7)))] (w.drewN q3) fun e w' => e = .returned (.bool (keyEq (M i) (M k))) ∧ ∃ q, w' = (w.drewN q3).drewN q) := hS
                      clear hS
                      cases hke : keyEq (M i) (M k) with
                      | true =>
                        have HSt := HSc.out
                        rw [hke] at HSt
                        clear HSc hke
                        go_wp2_with (go_at_call 24; refine HSt.mono ?_; clear HSt; rintro e w' ⟨rfl, q4, rfl⟩)
                        go_ret
                        exact ⟨⟨_, rfl, (fun h => by cases h)⟩, q3 + q4, by first | rfl | rw [World.drewN_drewN]⟩
                      | false =>
                        have HSt := HSc.out
                        rw [hke] at HSt
                        have HKE : Hid (keyEq (M i) (M k) = false) := hke
                        clear HSc hke
                        go_wp2_with (go_at_call 24; refine HSt.mono ?_; clear HSt; rintro e w' ⟨rfl, q4, rfl⟩)
                        go_roundw
                        case rel =>
                          refine ⟨i + 1, q3 + q4, by omega, by go_num, by first | rfl | rw [World.drewN_drewN], fun r hr => ?_⟩
                          by_cases e : r = i
                          · rw [e]; exact HKE.out
                          · exact HK.out r (by omega)
                        case measure => simp [intOf]; omega
                    · go_wp2
                      go_roundw
                      case rel =>
                        refine ⟨k + 1, q3, by omega, by go_num, rfl, fun i' hi' => ?_⟩
                        by_cases e : i' = k
                        · subst e
                          rw [HM.out]
                          exact ⟨by omega, fun r hr => by rw [← HM.out]; exact HK.out r (by omega)⟩
                        · exact HR.out i' (by omega)
                      case measure => simp [intOf]; omega
            · have f2 : decide (m.tot ≤ (m.sn : Int)) = true := by simp; omega
              go_quiet (fail)
              go_wp2
              go_ret
              exact ⟨⟨_, rfl, (fun h => by cases h)⟩, q + nq, by first | rfl | rw [World.drewN_drewN]⟩
          · have f1 : decide ((m.sn : Int) < 1) = true := by simp; omega
            go_quiet (fail)
            go_wp2
            go_ret
            exact ⟨⟨_, rfl, (fun h => by cases h)⟩, q + nq, by first | rfl | rw [World.drewN_drewN]⟩
      · have HG : Hid (¬ (2 ≤ m.tot ∧ m.tot ≤ 255 ∧ (m.el = 0 ∨ m.el = 8) ∧ 0 ≤ m.ref ∧ m.ref ≤ 65535 ∧ (m.el = 0 → m.ref ≤ 255))) := g1
        clear g1
        go_wp2_with fail
        all_goals first
          | (go_ret; exact ⟨⟨_, rfl, (fun h => by cases h)⟩, q, rfl⟩)
          | (exfalso; exact HG.out ⟨by omega, by omega, Or.inl (by assumption), by omega, by omega, fun _ => by omega⟩)
          | (exfalso; have h := ‹(m.el != 0) = false ∨ (m.el != 8) = false›; simp at h; exact HG.out ⟨by omega, by omega, by omega, by omega, by omega, fun h => by omega⟩)
    · obtain rfl : k = n := by omega
      go_wp2
      go_ret
      exact ⟨⟨_, rfl, fun _ => HR.out⟩, q, rfl⟩
end Go.Proofs.Qxb6613072a
