/- time.Time.Sub of the zero time; ZZlatestNs. -/
import Derived.Test.Qxb6613072aTime
import Derived.Lib.QuietBelow
namespace Go.Proofs.Qxb6613072a
open Go.RowKit Go.Sort

theorem gb_regrown (w : World) (d : Nat) (os : Array Obj) (row : Option Nat) : w.grownBy (grow (redrawn w d) os) row := gb_but (below_gb (below_regrown w d os)) row
theorem add_regrown (d : Int) (h0 : -9223372036854775808 ≤ d) (h1 : d ≤ 9223372036854775807) (w : World) (dq : Nat) (os : Array Obj) :
    Calls Try.prog 27 #[.agg #[.int .u64 0, .int .i64 0, .pointer none], .int .i64 d] (grow (redrawn w dq) os) fun e w'' => e = .returned (T d) ∧ ∃ p : Regrown, w'' = grow (redrawn w p.d) p.os :=
  Calls.regrown_of ((add_runs d h0 h1 _).mono fun _ _ h => ⟨h.1, gb_below h.2⟩)
theorem equal_regrown (x : Int) (w : World) (dq : Nat) (os : Array Obj) :
    Calls Try.prog 43 #[T x, T x] (grow (redrawn w dq) os) fun e w'' => e = .returned (.bool true) ∧ ∃ p : Regrown, w'' = grow (redrawn w p.d) p.os :=
  Calls.regrown_of ((equal_runs x _).mono fun _ _ h => ⟨h.1, gb_below h.2⟩)

set_option maxRecDepth 100000 in
set_option maxHeartbeats 1000000 in
theorem sub_runs (x : Int) (h0 : -9223372036854775808 ≤ x) (h1 : x ≤ 9223372036854775807) (w : World) :
    Calls Try.prog 38 #[T x, .agg #[.int .u64 0, .int .i64 0, .pointer none]] w fun e w' => e = .returned (.int .i64 x) ∧ Hid (w.grownBy w' none) := by
  have hA := fun (W : World) dq os => add_regrown x h0 h1 W dq os
  have hE := fun (W : World) dq os => equal_regrown x W dq os
  have x0 : 0 ≤ x % 1000000000 := by omega
  have x1 : x % 1000000000 < 1000000000 := by omega
  have HX : Hid (x = x / 1000000000 * 1000000000 + x % 1000000000) := by (show x = _); omega
  have s0 : -9223372037 ≤ x / 1000000000 := by omega
  have s1 : x / 1000000000 ≤ 9223372036 := by omega
  unfold T at hA hE ⊢
  generalize hxn : x % 1000000000 = xn at *
  generalize hxs : x / 1000000000 = xs at *
  clear hxn hxs
  have e := and_both xn 0 x0 (by omega) (by omega) (by omega)
  have hw : wrap64 (wrap64 (xs * 1000000000) + xn) = x := by have := HX.out; unfold wrap64; omega
  have S1 := sec_runs w.heap.size xn xs x0 x1 ((w.alloc (.cells #[.int .u64 xn, .int .i64 xs, .pointer none] 43)).alloc (.cells #[.int .u64 0, .int .i64 0, .pointer none] 43)) (by go_simp) (by go_simp)
  have S2 := sec_runs (w.heap.size + 1) 0 0 (by omega) (by omega) ((w.alloc (.cells #[.int .u64 xn, .int .i64 xs, .pointer none] 43)).alloc (.cells #[.int .u64 0, .int .i64 0, .pointer none] 43)) (by go_simp) (by go_simp)
  have N1 := nsec_runs w.heap.size xn x0 x1 ((w.alloc (.cells #[.int .u64 xn, .int .i64 xs, .pointer none] 43)).alloc (.cells #[.int .u64 0, .int .i64 0, .pointer none] 43)) (by go_simp)
  have N2 := nsec_runs (w.heap.size + 1) 0 (by omega) (by omega) ((w.alloc (.cells #[.int .u64 xn, .int .i64 xs, .pointer none] 43)).alloc (.cells #[.int .u64 0, .int .i64 0, .pointer none] 43)) (by go_simp)
  go_enter Try.func38, Try.ntmps38
  go_wp2_with (first | (go_at_call 41; refine S1.mono ?_; clear S1; rintro e w' ⟨rfl, rfl⟩) | (go_at_call 41; refine S2.mono ?_; clear S2; rintro e w' ⟨rfl, rfl⟩) | (go_at_call 35; refine N1.mono ?_; clear N1; rintro e w' ⟨rfl, rfl⟩) | (go_at_call 35; refine N2.mono ?_; clear N2; rintro e w' ⟨rfl, rfl⟩))
  rw [hw]
  have hG : w.grownBy ((w.alloc (.cells #[.int .u64 xn, .int .i64 xs, .pointer none] 43)).alloc (.cells #[.int .u64 0, .int .i64 0, .pointer none] 43)) none := gb_alloc (gb_alloc (gb_refl _ _) _) _
  have k0 : ((w.alloc (.cells #[.int .u64 xn, .int .i64 xs, .pointer none] 43)).alloc (.cells #[.int .u64 0, .int .i64 0, .pointer none] 43)).cell? ⟨w.heap.size, 0, none⟩ = some (.int .u64 xn) := by go_simp
  have k1 : ((w.alloc (.cells #[.int .u64 xn, .int .i64 xs, .pointer none] 43)).alloc (.cells #[.int .u64 0, .int .i64 0, .pointer none] 43)).cell? ⟨w.heap.size, 1, none⟩ = some (.int .i64 xs) := by go_simp
  have k2 : ((w.alloc (.cells #[.int .u64 xn, .int .i64 xs, .pointer none] 43)).alloc (.cells #[.int .u64 0, .int .i64 0, .pointer none] 43)).cell? ⟨w.heap.size, 2, none⟩ = some (.pointer none) := by go_simp
  have k3 : ((w.alloc (.cells #[.int .u64 xn, .int .i64 xs, .pointer none] 43)).alloc (.cells #[.int .u64 0, .int .i64 0, .pointer none] 43)).cell? ⟨w.heap.size + 1, 0, none⟩ = some (.int .u64 0) := by go_simp
  have k4 : ((w.alloc (.cells #[.int .u64 xn, .int .i64 xs, .pointer none] 43)).alloc (.cells #[.int .u64 0, .int .i64 0, .pointer none] 43)).cell? ⟨w.heap.size + 1, 1, none⟩ = some (.int .i64 0) := by go_simp
  have k5 : ((w.alloc (.cells #[.int .u64 xn, .int .i64 xs, .pointer none] 43)).alloc (.cells #[.int .u64 0, .int .i64 0, .pointer none] 43)).cell? ⟨w.heap.size + 1, 2, none⟩ = some (.pointer none) := by go_simp
  generalize ((w.alloc (.cells #[.int .u64 xn, .int .i64 xs, .pointer none] 43)).alloc (.cells #[.int .u64 0, .int .i64 0, .pointer none] 43)) = W2 at *
  have g0 := cell_regrown k0
  have g1 := cell_regrown k1
  have g2 := cell_regrown k2
  have g3 := cell_regrown k3
  have g4 := cell_regrown k4
  have g5 := cell_regrown k5
  have HG : Hid (w.grownBy W2 none) := hG
  clear k0 k1 k2 k3 k4 k5 hG hw
  refine wp_region_quiet_below (by kernel_rfl) (by kernel_rfl) ?_
  repeat (first | go_big_quiet_step (first | (go_at_call 27; exact hA _ _ _) | (go_at_call 43; exact hE _ _ _)) | quiet_step (first | (go_at_call 27; exact hA _ _ _) | (go_at_call 43; exact hE _ _ _)))
  refine wpQuiet_nil ?_
  intro _ hw'
  obtain ⟨⟨dq, osq⟩, hw''⟩ := hw'
  subst hw''
  go_wp2
  go_ret
  exact ⟨rfl, gb_trans HG.out (gb_regrown _ _ _ _)⟩

/-- ZZlatestNs of a listed message: its Latest -/
theorem latest_runs (a0 a1 a2 a3 a4 a5 : Value) (x : Int) (h0 : -9223372036854775808 ≤ x) (h1 : x ≤ 9223372036854775807) (w : World) :
    Calls Try.prog 28 #[.agg #[a0, a1, a2, a3, a4, a5, .int .u64 (x % 1000000000), .int .i64 (x / 1000000000), .pointer none]] w fun e w' => e = .returned (.int .i64 x) ∧ Hid (w.grownBy w' none) := by
  go_enter Try.func28, Try.ntmps28
  go_wp2_with (first | (go_at_call 38; refine (sub_runs x h0 h1 _).mono ?_; rintro e w' ⟨rfl, HG⟩))
  go_ret
  exact ⟨rfl, gb_trans (gb_alloc (gb_refl _ _) _) HG.out⟩
end Go.Proofs.Qxb6613072a
