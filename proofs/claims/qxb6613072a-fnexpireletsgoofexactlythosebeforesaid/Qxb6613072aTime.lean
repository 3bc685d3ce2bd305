/- time.Time as far as the road comes to it: instants x nanoseconds after the zero time, without a monotonic reading. -/
import Derived.Test.Qxb6613072aRows
import Derived.WalkKit
import Derived.WalkLawsBesides
import Derived.Deep.QuietTactic
import Derived.BigQuiet
import Derived.Deep.OwnRows
import Derived.OwnWalk
namespace Go.Proofs.Qxb6613072a
open Go.RowKit

theorem gb_trans {a b c : World} {row : Option Nat} (h : a.grownBy b row) (k : b.grownBy c row) : a.grownBy c row :=
  ⟨k.os.trans h.os, k.tape.trans h.tape, k.output.trans h.output, Nat.le_trans h.size k.size, fun i hi hr => (k.block i (Nat.lt_of_lt_of_le hi h.size) hr).trans (h.block i hi hr)⟩
theorem gb_refl (w : World) (row : Option Nat) : w.grownBy w row := ⟨rfl, rfl, rfl, Nat.le_refl _, fun _ _ _ => rfl⟩
theorem gb_drew {a c : World} {row : Option Nat} (h : a.grownBy c row) : a.grownBy c.drew row := ⟨h.os, h.tape, h.output, h.size, h.block⟩
theorem gb_drewN {a c : World} {row : Option Nat} (h : a.grownBy c row) (q : Nat) : a.grownBy (c.drewN q) row := ⟨h.os, h.tape, h.output, h.size, h.block⟩
theorem gb_but {a c : World} (h : a.grownBy c none) (row : Option Nat) : a.grownBy c row := ⟨h.os, h.tape, h.output, h.size, fun i hi _ => h.block i hi (by simp)⟩
theorem gb_alloc {a c : World} {row : Option Nat} (h : a.grownBy c row) (o : Obj) : a.grownBy (c.alloc o) row := gb_trans h (World.grownBy_alloc c o row)
theorem gb_setCell {a c : World} {row : Option Nat} (h : a.grownBy c row) {p : Addr} (hp : a.heap.size ≤ p.block ∨ row = some p.block) (v : Value) : a.grownBy (c.setCell p v) row := by
  refine ⟨h.os, h.tape, h.output, by rw [show (c.setCell p v).heap.size = c.heap.size by simp [World.setCell]]; exact h.size, fun i hi hr => ?_⟩
  rw [Below.heap_setCell c p v i (fun e => by subst e; exact hp.elim (fun h => by omega) (fun h => hr h.symm))]
  exact h.block i hi hr
theorem gb_below {a c : World} (h : a.grownBy c none) : Below a.heap.size a c := ⟨h.os, h.tape, h.output, h.size, fun i hi => h.block i hi (by simp)⟩
theorem below_gb {a c : World} (h : Below a.heap.size a c) : a.grownBy c none := ⟨h.os, h.tape, h.output, h.size, fun i hi _ => h.block i hi⟩
theorem gb_later {a b c : World} {row : Nat} (h : a.grownBy b none) (k : b.grownBy c (some row)) (hr : a.heap.size ≤ row) : a.grownBy c none :=
  ⟨k.os.trans h.os, k.tape.trans h.tape, k.output.trans h.output, Nat.le_trans h.size k.size, fun i hi hn => (k.block i (Nat.lt_of_lt_of_le hi h.size) (by intro e; cases e; omega)).trans (h.block i hi hn)⟩

theorem bits_and_u64 (a b : Nat) (ha : a < 18446744073709551616) (hb : b < 18446744073709551616) : bits .and .u64 (a : Int) (b : Int) = ((a &&& b : Nat) : Int) := by
  have hx : a &&& b < 2 ^ 64 := Nat.and_lt_two_pow _ (by omega)
  have h1 : (BitVec.ofInt 64 (a : Int)).toNat = a := by
    rw [BitVec.ofInt_natCast, BitVec.toNat_ofNat]; exact Nat.mod_eq_of_lt (by omega)
  have h2 : (BitVec.ofInt 64 (b : Int)).toNat = b := by
    rw [BitVec.ofInt_natCast, BitVec.toNat_ofNat]; exact Nat.mod_eq_of_lt (by omega)
  show IntKind.u64.wrap ((BitVec.ofInt 64 (a : Int) &&& BitVec.ofInt 64 (b : Int)).toNat : Int) = _
  rw [BitVec.toNat_and, h1, h2]
  simp [IntKind.wrap, IntKind.bits, IntKind.signed]
  omega
theorem and_mask (n : Int) (h0 : 0 ≤ n) (h1 : n < 1073741824) : bits .and .u64 n 1073741823 = n := by
  obtain ⟨x, rfl⟩ := Int.eq_ofNat_of_zero_le h0
  rw [show (1073741823 : Int) = ((1073741823 : Nat) : Int) from rfl, bits_and_u64 _ _ (by omega) (by omega)]
  have := Nat.and_two_pow_sub_one_eq_mod x 30
  simp only [show (2 : Nat) ^ 30 - 1 = 1073741823 from rfl, show (2 : Nat) ^ 30 = 1073741824 from rfl] at this
  rw [this, Nat.mod_eq_of_lt (by omega)]
theorem and_top (n : Int) (h0 : 0 ≤ n) (h1 : n < 1073741824) : bits .and .u64 n 9223372036854775808 = 0 := by
  obtain ⟨x, rfl⟩ := Int.eq_ofNat_of_zero_le h0
  rw [show (9223372036854775808 : Int) = ((9223372036854775808 : Nat) : Int) from rfl, bits_and_u64 _ _ (by omega) (by omega)]
  have : x &&& 9223372036854775808 = 0 := by
    apply Nat.eq_of_testBit_eq
    intro i
    rw [Nat.testBit_and, show (9223372036854775808 : Nat) = 2 ^ 63 from rfl, Nat.testBit_two_pow]
    by_cases e : 63 = i
    · subst e
      rw [Nat.testBit_lt_two_pow (by omega : x < 2 ^ 63)]
      simp
    · simp [e]
  rw [this]; rfl
theorem and_both (n m : Int) (h0 : 0 ≤ n) (h1 : n < 1073741824) (g0 : 0 ≤ m) (g1 : m < 1073741824) : bits .and .u64 (bits .and .u64 n m) 9223372036854775808 = 0 := by
  obtain ⟨x, rfl⟩ := Int.eq_ofNat_of_zero_le h0
  obtain ⟨y, rfl⟩ := Int.eq_ofNat_of_zero_le g0
  rw [bits_and_u64 _ _ (by omega) (by omega)]
  have : x &&& y < 2 ^ 30 := Nat.and_lt_two_pow _ (by omega)
  exact and_top _ (by omega) (by omega)

/-- the instant x nanoseconds after the zero time -/
def T (x : Int) : Value := .agg #[.int .u64 (x % 1000000000), .int .i64 (x / 1000000000), .pointer none]

theorem or_zero (n : Int) (h0 : 0 ≤ n) (h1 : n < 1073741824) : bits .or .u64 0 n = n := by
  obtain ⟨x, rfl⟩ := Int.eq_ofNat_of_zero_le h0
  have h2 : (BitVec.ofInt 64 (x : Int)).toNat = x := by
    rw [BitVec.ofInt_natCast, BitVec.toNat_ofNat]; exact Nat.mod_eq_of_lt (by omega)
  show IntKind.u64.wrap ((BitVec.ofInt 64 (0 : Int) ||| BitVec.ofInt 64 (x : Int)).toNat : Int) = _
  rw [BitVec.toNat_or, h2]
  simp [IntKind.wrap, IntKind.bits, IntKind.signed]
  omega
theorem andNot_zero : bits .andNot .u64 0 1073741823 = 0 := by decide

theorem nsec_runs (b : Nat) (n : Int) (h0 : 0 ≤ n) (h1 : n < 1000000000) (w : World) (hc : w.cell? ⟨b, 0, none⟩ = some (.int .u64 n)) :
    Calls Try.prog 35 #[.pointer (some ⟨b, 0, none⟩)] w fun e w' => e = .returned (.int .i32 n) ∧ w = w' := by
  have e0 := and_mask n h0 (by omega)
  go_enter Try.func35, Try.ntmps35
  go_wp2
  go_ret
  exact ⟨rfl, rfl⟩
theorem sec_runs (b : Nat) (n x : Int) (h0 : 0 ≤ n) (h1 : n < 1000000000) (w : World) (hc : w.cell? ⟨b, 0, none⟩ = some (.int .u64 n)) (hx : w.cell? ⟨b, 1, none⟩ = some (.int .i64 x)) :
    Calls Try.prog 41 #[.pointer (some ⟨b, 0, none⟩)] w fun e w' => e = .returned (.int .i64 x) ∧ w = w' := by
  have e0 := and_top n h0 (by omega)
  go_enter Try.func41, Try.ntmps41
  go_wp2
  go_ret
  exact ⟨rfl, rfl⟩
set_option maxRecDepth 100000 in
set_option maxHeartbeats 1000000 in
theorem addSec_runs (b : Nat) (n d : Int) (h0 : 0 ≤ n) (h1 : n < 1000000000) (g0 : -9223372036854775808 < d) (g1 : d < 9223372036854775807) (w : World) (hc : w.cell? ⟨b, 0, none⟩ = some (.int .u64 n)) (hx : w.cell? ⟨b, 1, none⟩ = some (.int .i64 0)) (hz : w.frozen? ⟨b, 1, none⟩ = false) :
    Calls Try.prog 36 #[.pointer (some ⟨b, 0, none⟩), .int .i64 d] w fun e w' => e = .returned (.tuple #[]) ∧ w.setCell ⟨b, 1, none⟩ (.int .i64 d) = w' := by
  have e0 := and_top n h0 (by omega)
  go_enter Try.func36, Try.ntmps36
  go_wp2
  go_end0
  exact ⟨rfl, rfl⟩

/-- the two parts of d nanoseconds, as Go reckons them -/
theorem parts (d : Int) : ∃ q r, d.tdiv 1000000000 = q ∧ d.tmod 1000000000 = r ∧ -1000000000 < r ∧ r < 1000000000 ∧ d = q * 1000000000 + r ∧ (0 ≤ d → 0 ≤ r) ∧ (d < 0 → r ≤ 0) := by
  refine ⟨_, _, rfl, rfl, ?_⟩
  rcases Int.lt_or_le d 0 with h | h
  · obtain ⟨x, hx⟩ := Int.eq_ofNat_of_zero_le (by omega : 0 ≤ -d)
    obtain rfl : d = -(x : Int) := by omega
    rw [Int.neg_tdiv, Int.neg_tmod, Int.tdiv_eq_ediv_of_nonneg (by omega), Int.tmod_eq_emod_of_nonneg (by omega)]
    omega
  · rw [Int.tdiv_eq_ediv_of_nonneg h, Int.tmod_eq_emod_of_nonneg h]
    omega

/-- a result that lies in a cell -/
theorem results_cell {fn : Func} {a : Tmp} {t : TypeId} (h : fn.results = #[.cell a t]) (tmps : Array Value) (P : Program) (w : World) {p : Addr} {v : Value} (hp : tmps.getD a undef = .pointer (some p)) (hl : (loadVar t p).run P w = .ok v w) :
    (results fn tmps).run P w = .ok v w := by
  rw [Array.getD_eq_getD_getElem?] at hp
  simp [results, h, hp, asAddr, hl]

set_option maxRecDepth 100000 in
set_option maxHeartbeats 1000000 in
theorem add_runs (d : Int) (h0 : -9223372036854775808 ≤ d) (h1 : d ≤ 9223372036854775807) (w : World) :
    Calls Try.prog 27 #[.agg #[.int .u64 0, .int .i64 0, .pointer none], .int .i64 d] w fun e w' => e = .returned (T d) ∧ Hid (w.grownBy w' none) := by
  obtain ⟨q, r, hq, hr, r0, r1, hd, hp, hn⟩ := parts d
  have e1 := andNot_zero
  have q0 : -9223372038 ≤ q := by omega
  have q1 : q ≤ 9223372037 := by omega
  by_cases hneg : r < 0
  · have HD : Hid (d % 1000000000 = r + 1000000000 ∧ d / 1000000000 = q - 1) := ⟨by omega, by omega⟩
    have e2 := or_zero (r + 1000000000) (by omega) (by omega)
    have e3 := and_top (r + 1000000000) (by omega) (by omega)
    have d1 : decide (1000000000 ≤ r) = false := by simp; omega
    have d2 : decide (r < 0) = true := by simp; omega
    clear hd hp hn h0 h1
    go_enter Try.func27, Try.ntmps27
    go_wp2_with (first | (go_at_call 35; refine (nsec_runs w.heap.size 0 (by omega) (by omega) _ (by go_simp)).mono ?_; rintro e w' ⟨rfl, rfl⟩) | (go_at_call 36; refine (addSec_runs w.heap.size (r + 1000000000) (q - 1) (by omega) (by omega) (by omega) (by omega) _ (by go_simp) (by go_simp) (by go_simp)).mono ?_; rintro e w' ⟨rfl, rfl⟩))
    refine bodyPost_ret (results_cell rfl _ _ _ rfl (v := T d) ?_) rfl ⟨rfl, gb_alloc (gb_alloc (gb_refl _ _) _) _⟩
    unfold T
    rw [HD.out.1, HD.out.2]
    go_simp
  · have HD : Hid (d % 1000000000 = r ∧ d / 1000000000 = q) := ⟨by omega, by omega⟩
    have e2 := or_zero r (by omega) (by omega)
    have e3 := and_top r (by omega) (by omega)
    have d1 : decide (1000000000 ≤ r) = false := by simp; omega
    have d2 : decide (r < 0) = false := by simp; omega
    clear hd hp hn h0 h1
    go_enter Try.func27, Try.ntmps27
    go_wp2_with (first | (go_at_call 35; refine (nsec_runs w.heap.size 0 (by omega) (by omega) _ (by go_simp)).mono ?_; rintro e w' ⟨rfl, rfl⟩) | (go_at_call 36; refine (addSec_runs w.heap.size r q (by omega) (by omega) (by omega) (by omega) _ (by go_simp) (by go_simp) (by go_simp)).mono ?_; rintro e w' ⟨rfl, rfl⟩))
    refine bodyPost_ret (results_cell rfl _ _ _ rfl (v := T d) ?_) rfl ⟨rfl, gb_alloc (gb_alloc (gb_refl _ _) _) _⟩
    unfold T
    rw [HD.out.1, HD.out.2]
    go_simp

set_option maxRecDepth 100000 in
set_option maxHeartbeats 1000000 in
theorem before_runs (x y : Int) (w : World) :
    Calls Try.prog 33 #[T x, T y] w fun e w' => e = .returned (.bool (decide (x < y))) ∧ Hid (w.grownBy w' none) := by
  have x0 : 0 ≤ x % 1000000000 := by omega
  have x1 : x % 1000000000 < 1000000000 := by omega
  have y0 : 0 ≤ y % 1000000000 := by omega
  have y1 : y % 1000000000 < 1000000000 := by omega
  have HX : Hid (x = x / 1000000000 * 1000000000 + x % 1000000000) := by (show x = _); omega
  have HY : Hid (y = y / 1000000000 * 1000000000 + y % 1000000000) := by (show y = _); omega
  unfold T
  generalize x % 1000000000 = xn at *
  generalize y % 1000000000 = yn at *
  generalize x / 1000000000 = xs at *
  generalize y / 1000000000 = ys at *
  have e := and_both xn yn x0 (by omega) y0 (by omega)
  rcases Int.lt_trichotomy xs ys with h | h | h
  · have d1 : decide (xs < ys) = true := by simp; omega
    have HR : Hid (decide (x < y) = true) := by (show _ = _); have := HX.out; have := HY.out; simp; omega
    have S1 := sec_runs w.heap.size xn xs x0 x1 ((w.alloc (.cells #[.int .u64 xn, .int .i64 xs, .pointer none] 43)).alloc (.cells #[.int .u64 yn, .int .i64 ys, .pointer none] 43)) (by go_simp) (by go_simp)
    have S2 := sec_runs (w.heap.size + 1) yn ys y0 y1 ((w.alloc (.cells #[.int .u64 xn, .int .i64 xs, .pointer none] 43)).alloc (.cells #[.int .u64 yn, .int .i64 ys, .pointer none] 43)) (by go_simp) (by go_simp)
    go_enter Try.func33, Try.ntmps33
    go_wp2_with (first | (go_at_call 41; refine S1.mono ?_; clear S1; rintro e w' ⟨rfl, rfl⟩) | (go_at_call 41; refine S2.mono ?_; clear S2; rintro e w' ⟨rfl, rfl⟩))
    go_ret
    rw [HR.out]
    exact ⟨rfl, gb_alloc (gb_alloc (gb_refl _ _) _) _⟩
  · subst h
    have d1 : decide (xs < xs) = false := by simp
    have HR : Hid (decide (x < y) = decide (xn < yn)) := by (show _ = _); have := HX.out; have := HY.out; simp; omega
    have S1 := sec_runs w.heap.size xn xs x0 x1 ((w.alloc (.cells #[.int .u64 xn, .int .i64 xs, .pointer none] 43)).alloc (.cells #[.int .u64 yn, .int .i64 xs, .pointer none] 43)) (by go_simp) (by go_simp)
    have S2 := sec_runs (w.heap.size + 1) yn xs y0 y1 ((w.alloc (.cells #[.int .u64 xn, .int .i64 xs, .pointer none] 43)).alloc (.cells #[.int .u64 yn, .int .i64 xs, .pointer none] 43)) (by go_simp) (by go_simp)
    have N1 := nsec_runs w.heap.size xn x0 x1 ((w.alloc (.cells #[.int .u64 xn, .int .i64 xs, .pointer none] 43)).alloc (.cells #[.int .u64 yn, .int .i64 xs, .pointer none] 43)) (by go_simp)
    have N2 := nsec_runs (w.heap.size + 1) yn y0 y1 ((w.alloc (.cells #[.int .u64 xn, .int .i64 xs, .pointer none] 43)).alloc (.cells #[.int .u64 yn, .int .i64 xs, .pointer none] 43)) (by go_simp)
    go_enter Try.func33, Try.ntmps33
    go_wp2_with (first | (go_at_call 41; refine S1.mono ?_; clear S1; rintro e w' ⟨rfl, rfl⟩) | (go_at_call 41; refine S2.mono ?_; clear S2; rintro e w' ⟨rfl, rfl⟩) | (go_at_call 35; refine N1.mono ?_; clear N1; rintro e w' ⟨rfl, rfl⟩) | (go_at_call 35; refine N2.mono ?_; clear N2; rintro e w' ⟨rfl, rfl⟩))
    go_ret
    rw [HR.out]
    exact ⟨rfl, gb_alloc (gb_alloc (gb_refl _ _) _) _⟩
  · have d1 : decide (xs < ys) = false := by simp; omega
    have d2 : (xs == ys) = false := by rw [beq_eq_false_iff_ne]; omega
    have HR : Hid (decide (x < y) = false) := by (show _ = _); have := HX.out; have := HY.out; simp; omega
    have S1 := sec_runs w.heap.size xn xs x0 x1 ((w.alloc (.cells #[.int .u64 xn, .int .i64 xs, .pointer none] 43)).alloc (.cells #[.int .u64 yn, .int .i64 ys, .pointer none] 43)) (by go_simp) (by go_simp)
    have S2 := sec_runs (w.heap.size + 1) yn ys y0 y1 ((w.alloc (.cells #[.int .u64 xn, .int .i64 xs, .pointer none] 43)).alloc (.cells #[.int .u64 yn, .int .i64 ys, .pointer none] 43)) (by go_simp) (by go_simp)
    go_enter Try.func33, Try.ntmps33
    go_wp2_with (first | (go_at_call 41; refine S1.mono ?_; clear S1; rintro e w' ⟨rfl, rfl⟩) | (go_at_call 41; refine S2.mono ?_; clear S2; rintro e w' ⟨rfl, rfl⟩))
    go_ret
    rw [HR.out]
    exact ⟨rfl, gb_alloc (gb_alloc (gb_refl _ _) _) _⟩

set_option maxRecDepth 100000 in
set_option maxHeartbeats 1000000 in
theorem equal_runs (x : Int) (w : World) :
    Calls Try.prog 43 #[T x, T x] w fun e w' => e = .returned (.bool true) ∧ Hid (w.grownBy w' none) := by
  have x0 : 0 ≤ x % 1000000000 := by omega
  have x1 : x % 1000000000 < 1000000000 := by omega
  unfold T
  generalize x % 1000000000 = xn at *
  generalize x / 1000000000 = xs at *
  have e := and_both xn xn x0 (by omega) x0 (by omega)
  have S1 := sec_runs w.heap.size xn xs x0 x1 ((w.alloc (.cells #[.int .u64 xn, .int .i64 xs, .pointer none] 43)).alloc (.cells #[.int .u64 xn, .int .i64 xs, .pointer none] 43)) (by go_simp) (by go_simp)
  have S2 := sec_runs (w.heap.size + 1) xn xs x0 x1 ((w.alloc (.cells #[.int .u64 xn, .int .i64 xs, .pointer none] 43)).alloc (.cells #[.int .u64 xn, .int .i64 xs, .pointer none] 43)) (by go_simp) (by go_simp)
  have N1 := nsec_runs w.heap.size xn x0 x1 ((w.alloc (.cells #[.int .u64 xn, .int .i64 xs, .pointer none] 43)).alloc (.cells #[.int .u64 xn, .int .i64 xs, .pointer none] 43)) (by go_simp)
  have N2 := nsec_runs (w.heap.size + 1) xn x0 x1 ((w.alloc (.cells #[.int .u64 xn, .int .i64 xs, .pointer none] 43)).alloc (.cells #[.int .u64 xn, .int .i64 xs, .pointer none] 43)) (by go_simp)
  go_enter Try.func43, Try.ntmps43
  go_wp2_with (first | (go_at_call 41; refine S1.mono ?_; clear S1; rintro e w' ⟨rfl, rfl⟩) | (go_at_call 41; refine S2.mono ?_; clear S2; rintro e w' ⟨rfl, rfl⟩) | (go_at_call 35; refine N1.mono ?_; clear N1; rintro e w' ⟨rfl, rfl⟩) | (go_at_call 35; refine N2.mono ?_; clear N2; rintro e w' ⟨rfl, rfl⟩))
  go_ret
  exact ⟨rfl, gb_alloc (gb_alloc (gb_refl _ _) _) _⟩
end Go.Proofs.Qxb6613072a
