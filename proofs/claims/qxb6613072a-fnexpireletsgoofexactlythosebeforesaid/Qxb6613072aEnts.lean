/- The list that incomplete gives; sameMessage at one of its entries. -/
import Derived.Test.Qxb6613072aReach
import Derived.Test.Qxb6613072aSub
namespace Go.Proofs.Qxb6613072a
open Go.RowKit Go.Sort

/-- one of the list's entries: its nine cells from place o on, and its parts' numbers -/
structure Inc1 (w : World) (lb o hb : Nat) (m : HM) : Prop where
  c0 : w.cell? ⟨lb, o, none⟩ = some (.int .u8 m.ty)
  c1 : w.cell? ⟨lb, o + 1, none⟩ = some (.string m.o)
  c2 : w.cell? ⟨lb, o + 2, none⟩ = some (.int .u8 m.el)
  c3 : w.cell? ⟨lb, o + 3, none⟩ = some (.int .i64 m.ref)
  c4 : w.cell? ⟨lb, o + 4, none⟩ = some (.int .i64 m.tot)
  c5 : w.cell? ⟨lb, o + 5, none⟩ = some (.slice (some ⟨hb, 0, none⟩) m.sn m.sn)
  c6 : w.cell? ⟨lb, o + 6, none⟩ = some (.int .u64 (m.lat % 1000000000))
  c7 : w.cell? ⟨lb, o + 7, none⟩ = some (.int .i64 (m.lat / 1000000000))
  c8 : w.cell? ⟨lb, o + 8, none⟩ = some (.pointer none)
  qs : ∀ t, t < m.sn → w.cell? ⟨hb, t, none⟩ = some (.int .i64 (m.q t))

theorem Inc1.grown {w w' : World} {lb o hb : Nat} {m : HM} {row : Option Nat} (h : Inc1 w lb o hb m) (g : w.grownBy w' row) (h1 : some lb ≠ row) (h2 : some hb ≠ row) : Inc1 w' lb o hb m :=
  ⟨g.cell h.c0 h1, g.cell h.c1 h1, g.cell h.c2 h1, g.cell h.c3 h1, g.cell h.c4 h1, g.cell h.c5 h1, g.cell h.c6 h1, g.cell h.c7 h1, g.cell h.c8 h1, fun t ht => g.cell (h.qs t ht) h2⟩

theorem latest_regrown (a0 a1 a2 a3 a4 a5 : Value) (x : Int) (h0 : -9223372036854775808 ≤ x) (h1 : x ≤ 9223372036854775807) (w : World) (dq : Nat) (os : Array Obj) :
    Calls Try.prog 28 #[.agg #[a0, a1, a2, a3, a4, a5, .int .u64 (x % 1000000000), .int .i64 (x / 1000000000), .pointer none]] (grow (redrawn w dq) os) fun e w'' => e = .returned (.int .i64 x) ∧ ∃ p : Regrown, w'' = grow (redrawn w p.d) p.os :=
  Calls.regrown_of ((latest_runs a0 a1 a2 a3 a4 a5 x h0 h1 _).mono fun _ _ h => ⟨h.1, gb_below h.2.out⟩)

set_option maxRecDepth 100000 in
set_option maxHeartbeats 4000000 in
theorem same17 (lb o hb : Nat) (p : Addr) (m : HM) (w : World) (l0 : -9223372036854775808 ≤ m.lat) (l1 : m.lat ≤ 9223372036854775807) (hsn : m.sn ≤ 254) (hI : Inc1 w lb o hb m) (hp : KeyAt w p m)
    (h5 : w.cell? ⟨p.block, p.off + 5, none⟩ = some (.slice m.sa m.sn m.sc)) (h6 : w.cell? ⟨p.block, p.off + 6, none⟩ = some (.int .i64 m.lat))
    (hq : ∀ k, k < m.sn → ∃ sad : Addr, m.sa = some sad ∧ w.cell? (sad.add k) = some (.int .i64 (m.q k))) :
    Calls Try.prog 17 #[.pointer (some ⟨lb, o, none⟩), .pointer (some p)] w fun e w' => e = .returned (.bool true) ∧ Hid (w.grownBy w' none) := by
  obtain ⟨c0, c1, c2, c3, c4, c5, c6, c7, c8, qs⟩ := hI
  obtain ⟨a0, a1, a2, a3, a4⟩ := hp
  have HQ : Hid (∀ t, t < m.sn → w.cell? ⟨hb, t, none⟩ = some (.int .i64 (m.q t))) := qs
  have HP : Hid (∀ k, k < m.sn → ∃ sad : Addr, m.sa = some sad ∧ w.cell? (sad.add k) = some (.int .i64 (m.q k))) := hq
  have HL : Hid (∀ (a0 a1 a2 a3 a4 a5 : Value) (W : World) (dq : Nat) (os : Array Obj), Calls Try.prog 28 #[.agg #[a0, a1, a2, a3, a4, a5, .int .u64 (m.lat % 1000000000), .int .i64 (m.lat / 1000000000), .pointer none]] (grow (redrawn W dq) os) fun e w'' => e = .returned (.int .i64 m.lat) ∧ ∃ p : Regrown, w'' = grow (redrawn W p.d) p.os) := fun a0 a1 a2 a3 a4 a5 W dq os => latest_regrown a0 a1 a2 a3 a4 a5 m.lat l0 l1 W dq os
  clear qs hq l0 l1
  generalize hxn : m.lat % 1000000000 = xn at *
  generalize hxs : m.lat / 1000000000 = xs at *
  clear hxn hxs
  go_enter Try.func17, Try.ntmps17
  go_wp2_with fail
  go_quiet (fail)
  go_wp2_with fail
  go_quiet (fail)
  go_wp2
  go_loopw [77] (fun t wr => ∃ (k q : Nat), k ≤ m.sn ∧ t = .int .i64 k ∧ wr = w.drewN q) (fun t _ => m.sn - (intOf t).toNat)
  case atStart => exact ⟨0, _, Nat.zero_le _, rfl, by first | rfl | rw [World.drewN_drewN]⟩
  case round =>
    obtain ⟨k, q, hk, rfl, rfl⟩ := hrel
    by_cases hlt : k < m.sn
    · obtain ⟨sad, esa, cs⟩ := HP.out k hlt
      have cq := HQ.out k hlt
      have h5' := h5
      rw [esa] at h5'
      clear h5
      go_wp2_with fail
      go_quiet (fail)
      go_wp2
      go_roundw
      case rel => exact ⟨k + 1, q + nq, by omega, by go_num, by first | rfl | rw [World.drewN_drewN]⟩
      case measure => simp [intOf]; omega
    · have HG : Hid (w.grownBy (w.drewN q) none) := gb_drewN (gb_refl _ _) q
      have g0 := cell_regrown (w := w.drewN q) c0
      have g1 := cell_regrown (w := w.drewN q) c1
      have g2 := cell_regrown (w := w.drewN q) c2
      have g3 := cell_regrown (w := w.drewN q) c3
      have g4 := cell_regrown (w := w.drewN q) c4
      have g5 := cell_regrown (w := w.drewN q) c5
      have g6 := cell_regrown (w := w.drewN q) c6
      have g7 := cell_regrown (w := w.drewN q) c7
      have g8 := cell_regrown (w := w.drewN q) c8
      have k6 := cell_regrown (w := w.drewN q) h6
      clear c0 c1 c2 c3 c4 c5 c6 c7 c8 h6 a0 a1 a2 a3 a4 h5
      have hA := HL.out
      clear HL
      go_wp2_with fail
      generalize w.drewN q = W at *
      refine wp_region_quiet_below (by kernel_rfl) (by kernel_rfl) ?_
      repeat (first | go_big_quiet_step ((go_at_call 28; exact hA _ _ _ _ _ _ _ _ _)) | quiet_step ((go_at_call 28; exact hA _ _ _ _ _ _ _ _ _)))
      refine wpQuiet_nil ?_
      intro _ hw'
      obtain ⟨⟨dq, osq⟩, hw''⟩ := hw'
      subst hw''
      go_wp2
      go_ret
      exact ⟨rfl, gb_trans HG.out (gb_regrown _ _ _ _)⟩
end Go.Proofs.Qxb6613072a
