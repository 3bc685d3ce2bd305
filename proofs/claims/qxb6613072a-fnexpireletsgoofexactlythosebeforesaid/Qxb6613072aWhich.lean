/- Expire's closure: is a held message's latest stamp before the given time? -/
import Derived.Test.Qxb6613072aBuild
namespace Go.Proofs.Qxb6613072a
open Go.RowKit Go.Sort

theorem before_regrown (x y : Int) (w : World) (dq : Nat) (os : Array Obj) :
    Calls Try.prog 33 #[T x, T y] (grow (redrawn w dq) os) fun e w'' => e = .returned (.bool (decide (x < y))) ∧ ∃ p : Regrown, w'' = grow (redrawn w p.d) p.os :=
  Calls.regrown_of ((before_runs x y _).mono fun _ _ h => ⟨h.1, gb_below h.2⟩)

set_option maxRecDepth 100000 in
set_option maxHeartbeats 1000000 in
theorem which32 (B tb : Nat) (x y : Int) (w : World) (c4 : w.cell? ⟨B, 4, none⟩ = some (.int .u64 (x % 1000000000))) (c5 : w.cell? ⟨B, 5, none⟩ = some (.int .i64 (x / 1000000000))) (c6 : w.cell? ⟨B, 6, none⟩ = some (.pointer none))
    (d0 : w.cell? ⟨tb, 0, none⟩ = some (.int .u64 (y % 1000000000))) (d1 : w.cell? ⟨tb, 1, none⟩ = some (.int .i64 (y / 1000000000))) (d2 : w.cell? ⟨tb, 2, none⟩ = some (.pointer none)) :
    Calls Try.prog 32 #[.pointer (some ⟨B, 0, none⟩), .pointer (some ⟨tb, 0, none⟩)] w fun e w' => e = .returned (.bool (decide (x < y))) ∧ Hid (w.grownBy w' none) := by
  have hA := fun (W : World) dq os => before_regrown x y W dq os
  unfold T at hA
  generalize x % 1000000000 = xn at *
  generalize x / 1000000000 = xs at *
  generalize y % 1000000000 = yn at *
  generalize y / 1000000000 = ys at *
  generalize decide (x < y) = bb at *
  have g4 := cell_regrown c4
  have g5 := cell_regrown c5
  have g6 := cell_regrown c6
  have h0 := cell_regrown d0
  have h1 := cell_regrown d1
  have h2 := cell_regrown d2
  clear c4 c5 c6 d0 d1 d2
  go_enter Try.func32, Try.ntmps32
  go_wp2_with fail
  refine wp_region_quiet_below (by kernel_rfl) (by kernel_rfl) ?_
  repeat (first | go_big_quiet_step ((go_at_call 33; exact hA _ _ _)) | quiet_step ((go_at_call 33; exact hA _ _ _)))
  refine wpQuiet_nil ?_
  intro _ hw'
  obtain ⟨⟨dq, osq⟩, hw''⟩ := hw'
  subst hw''
  go_wp2
  go_ret
  exact ⟨rfl, gb_regrown _ _ _ _⟩
end Go.Proofs.Qxb6613072a
