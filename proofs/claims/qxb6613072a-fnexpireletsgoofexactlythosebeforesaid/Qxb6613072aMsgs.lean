/- The messages behind a slice's address; the guards: zzBytes.., heldFits, sameKey. -/
import Derived.Test.Qxb6613072aTime
namespace Go.Proofs.Qxb6613072a
open Go.RowKit

/-- one message -/
structure HM where
  o : ByteArray
  ty : Int
  ref : Int
  tot : Int
  el : Int
  sa : Option Addr
  sn : Nat
  sc : Nat
  lat : Int
  q : Nat → Int

/-- the j-th cell of the i-th message -/
def at7 (ad : Addr) (i j : Nat) : Addr := ⟨(ad.add (i * 7)).block, (ad.add (i * 7)).off + j, none⟩

/-- n messages behind a slice's address -/
def MsgO (w : World) (a : Option Addr) (n : Nat) (M : Nat → HM) : Prop :=
  ∀ i, i < n → ∃ ad : Addr, a = some ad ∧ w.cell? (ad.add (i * 7)) = some (.string (M i).o) ∧ w.cell? ⟨(ad.add (i * 7)).block, (ad.add (i * 7)).off + 1, none⟩ = some (.int .u8 (M i).ty) ∧
    w.cell? ⟨(ad.add (i * 7)).block, (ad.add (i * 7)).off + 2, none⟩ = some (.int .i64 (M i).ref) ∧ w.cell? ⟨(ad.add (i * 7)).block, (ad.add (i * 7)).off + 3, none⟩ = some (.int .i64 (M i).tot) ∧
    w.cell? ⟨(ad.add (i * 7)).block, (ad.add (i * 7)).off + 4, none⟩ = some (.int .u8 (M i).el) ∧ w.cell? ⟨(ad.add (i * 7)).block, (ad.add (i * 7)).off + 5, none⟩ = some (.slice (M i).sa (M i).sn (M i).sc) ∧
    w.cell? ⟨(ad.add (i * 7)).block, (ad.add (i * 7)).off + 6, none⟩ = some (.int .i64 (M i).lat) ∧
    ∀ k, k < (M i).sn → ∃ sad : Addr, (M i).sa = some sad ∧ w.cell? (sad.add k) = some (.int .i64 ((M i).q k))

theorem MsgO.grown {w w' : World} {a : Option Addr} {n : Nat} {M : Nat → HM} (h : MsgO w a n M) (g : w.grownBy w' none) : MsgO w' a n M := by
  intro i hi
  obtain ⟨ad, rfl, c0, c1, c2, c3, c4, c5, c6, c7⟩ := h i hi
  refine ⟨ad, rfl, g.cell c0 (by simp), g.cell c1 (by simp), g.cell c2 (by simp), g.cell c3 (by simp), g.cell c4 (by simp), g.cell c5 (by simp), g.cell c6 (by simp), fun k hk => ?_⟩
  obtain ⟨sad, e, hc⟩ := c7 k hk
  exact ⟨sad, e, g.cell hc (by simp)⟩

/-- some bool comes back -/
def SomeBool (e : Ending) : Prop := ∃ b, e = .returned (.bool b)

set_option maxHeartbeats 1000000 in
set_option maxRecDepth 100000 in
theorem bytes12 (z : Int) (a : Option Addr) (n cap : Nat) (M : Nat → HM) (hn : n ≤ maxLen) (hl : ∀ i, i < n → (M i).o.size ≤ maxLen ∧ (M i).sn ≤ maxLen) (w : World) (hS : MsgO w a n M) :
    Calls Try.prog 12 #[.slice a n cap, .int .i64 z] w fun e w' => SomeBool e ∧ w = w' := by
  have HS : Hid (MsgO w a n M) := hS
  have HL : Hid (∀ i, i < n → (M i).o.size ≤ maxLen ∧ (M i).sn ≤ maxLen) := hl
  clear hS hl
  unfold maxLen at hn
  by_cases hb : n ≤ 1048576
  · go_enter Try.func12, Try.ntmps12
    go_wp2
    go_loop [5, 6] (fun t i => ∃ (k : Nat) (s : Int), k ≤ n ∧ i = .int .i64 k ∧ t = .int .i64 s ∧ 0 ≤ s ∧ s ≤ 1048576) (fun _ i => n - (intOf i).toNat)
    case atStart => exact ⟨0, n, Nat.zero_le _, rfl, by go_num, by omega, by omega⟩
    case round =>
      obtain ⟨k, s, hk, rfl, rfl, s0, s1⟩ := hrel
      by_cases hlt : k < n
      · obtain ⟨ad, rfl, c0, c1, c2, c3, c4, c5, c6, _⟩ := HS.out k hlt
        obtain ⟨l1, l2⟩ := HL.out k hlt
        unfold maxLen at l1 l2
        clear c1 c2 c3 c4 c6
        generalize M k = m at *
        go_wp2
        all_goals first
          | (go_ret; exact ⟨⟨_, rfl⟩, rfl⟩)
          | exact ⟨⟨k + 1, _, by omega, by go_num, rfl, by omega, by omega⟩, by simp [intOf]; omega⟩
      · go_wp2
        go_ret
        exact ⟨⟨_, rfl⟩, rfl⟩
  · go_enter Try.func12, Try.ntmps12
    go_wp2
    go_ret
    exact ⟨⟨_, rfl⟩, rfl⟩

set_option maxHeartbeats 1000000 in
set_option maxRecDepth 100000 in
theorem fits13 (a : Option Addr) (n cap : Nat) (M : Nat → HM) (hn : n ≤ maxLen) (hl : ∀ i, i < n → (M i).o.size ≤ maxLen ∧ (M i).sn ≤ maxLen) (w : World) (hS : MsgO w a n M) :
    Calls Try.prog 13 #[.slice a n cap] w fun e w' => ∃ b, e = .returned (.bool b) ∧ (b = true → n ≤ 4096) ∧ ∃ q, w' = w.drewN q := by
  have HS : Hid (MsgO w a n M) := hS
  have HL : Hid (∀ i, i < n → (M i).o.size ≤ maxLen ∧ (M i).sn ≤ maxLen) := hl
  clear hS hl
  unfold maxLen at hn
  by_cases hb : n ≤ 4096
  · go_enter Try.func13, Try.ntmps13
    go_wp2
    go_loopw [3, 10] (fun t i wr => ∃ (k q : Nat) (s : Int), k ≤ n ∧ i = .int .i64 k ∧ t = .int .i64 s ∧ 0 ≤ s ∧ s ≤ 1048576 ∧ wr = w.drewN q) (fun _ i _ => n - (intOf i).toNat)
    case atStart => exact ⟨0, 0, 0, Nat.zero_le _, rfl, rfl, by omega, by omega, rfl⟩
    case round =>
      obtain ⟨k, q, s, hk, rfl, rfl, s0, s1, rfl⟩ := hrel
      by_cases hlt : k < n
      · obtain ⟨ad, rfl, c0, c1, c2, c3, c4, c5, c6, _⟩ := HS.out k hlt
        obtain ⟨l1, l2⟩ := HL.out k hlt
        unfold maxLen at l1 l2
        clear c1 c2 c3 c4 c6
        generalize M k = m at *
        by_cases d1 : m.o.size ≤ 1048576
        · by_cases d2 : m.sn ≤ 131072
          · have e1 : decide ((1048576 : Int) < (m.o.size : Int)) = false := by simp; omega
            have e2 : decide ((131072 : Int) < (m.sn : Int)) = false := by simp; omega
            go_wp2_with fail
            go_quiet (fail)
            go_wp2
            · go_ret
              exact ⟨_, rfl, (fun h => by cases h), q + nq, by first | rfl | rw [World.drewN_drewN]⟩
            · go_roundw
              case rel => exact ⟨k + 1, q + nq, _, by omega, by go_num, rfl, by omega, by omega, by first | rfl | rw [World.drewN_drewN]⟩
              case measure => simp [intOf]; omega
          · have e1 : decide ((1048576 : Int) < (m.o.size : Int)) = false := by simp; omega
            have e2 : decide ((131072 : Int) < (m.sn : Int)) = true := by simp; omega
            go_wp2
            go_ret
            exact ⟨_, rfl, (fun h => by cases h), q, rfl⟩
        · have e1 : decide ((1048576 : Int) < (m.o.size : Int)) = true := by simp; omega
          go_wp2
          go_ret
          exact ⟨_, rfl, (fun h => by cases h), q, rfl⟩
      · go_wp2
        go_ret
        exact ⟨_, rfl, fun _ => hb, q, rfl⟩
  · go_enter Try.func13, Try.ntmps13
    go_wp2
    go_ret
    exact ⟨_, rfl, (fun h => by cases h), 0, rfl⟩
end Go.Proofs.Qxb6613072a
