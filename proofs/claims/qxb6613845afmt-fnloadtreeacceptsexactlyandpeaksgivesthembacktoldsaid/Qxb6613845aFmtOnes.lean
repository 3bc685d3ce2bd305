/- The count of the bits set in a word: by Go's library (math/bits.OnesCount64: sums side by side) and by the law's own loop: the one number. -/
import Derived.Test.Qxb6613845aFmtRows
import Derived.WalkKit
import Derived.LoopN
namespace Go.Proofs.Qxb6613845aFmt
open Go.RowKit

/-- of the lowest n bits of x, how many are set -/
def ones : Nat → Nat → Nat
  | 0, _ => 0
  | n + 1, x => x % 2 + ones n (x / 2)

theorem ones_le : ∀ n x, ones n x ≤ n
  | 0, _ => Nat.le_refl _
  | n + 1, x => by have := ones_le n (x / 2); simp only [ones]; omega
theorem ones_add : ∀ k n x, ones (k + n) x = ones k x + ones n (x / 2 ^ k)
  | 0, n, x => by simp [ones]
  | k + 1, n, x => by
    rw [show k + 1 + n = (k + n) + 1 by omega]
    simp only [ones]
    rw [ones_add k n (x / 2), Nat.div_div_eq_div_mul, Nat.pow_succ, Nat.mul_comm 2 (2 ^ k)]
    omega
theorem ones_mod : ∀ k x m, ones k (x + 2 ^ k * m) = ones k x
  | 0, _, _ => rfl
  | k + 1, x, m => by
    simp only [ones]
    rw [show x + 2 ^ (k + 1) * m = x + 2 * (2 ^ k * m) by rw [Nat.pow_succ]; rw [Nat.mul_comm (2 ^ k) 2, Nat.mul_assoc]]
    rw [show (x + 2 * (2 ^ k * m)) % 2 = x % 2 by omega, show (x + 2 * (2 ^ k * m)) / 2 = x / 2 + 2 ^ k * m by omega, ones_mod k]
theorem ones_succ (i x : Nat) : ones (i + 1) x = ones i x + x / 2 ^ i % 2 := by
  rw [ones_add i 1 x]; simp [ones]

theorem and_byte (q r m k : Nat) (hr : r < 256) (hk : k < 256) : (256 * q + r) &&& (256 * m + k) = 256 * (q &&& m) + (r &&& k) := by
  have hrk : r &&& k < 2 ^ 8 := Nat.and_lt_two_pow _ (by omega)
  have h1 := Nat.and_mod_two_pow (a := 256 * q + r) (b := 256 * m + k) (n := 8)
  have h2 := Nat.and_div_two_pow (a := 256 * q + r) (b := 256 * m + k) (n := 8)
  simp only [show (2 : Nat) ^ 8 = 256 from rfl] at h1 h2 hrk
  rw [show (256 * q + r) % 256 = r by omega, show (256 * m + k) % 256 = k by omega] at h1
  rw [show (256 * q + r) / 256 = q by omega, show (256 * m + k) / 256 = m by omega] at h2
  omega

def s1 (b : Nat) : Nat := (b / 2 &&& 85) + (b &&& 85)
def s2 (b : Nat) : Nat := (b / 4 &&& 51) + (b &&& 51)
def s3 (b : Nat) : Nat := b / 16 + b % 16
theorem s1_dec : ∀ (r : Fin 256) (c : Fin 2), ((c.val * 128 + r.val / 2) &&& 85) = (r.val / 2 &&& 85) := by decide +kernel
theorem s2_dec : ∀ (r : Fin 256) (c : Fin 4), ((c.val * 64 + r.val / 4) &&& 51) = (r.val / 4 &&& 51) := by decide +kernel
theorem s3_dec : ∀ (r : Fin 256), r.val &&& 15 = r.val % 16 := by decide +kernel
theorem s1_lt : ∀ (r : Fin 256), s1 r.val < 256 := by decide +kernel
theorem s2_nib : ∀ (r : Fin 256), s2 (s1 r.val) / 16 ≤ 4 ∧ s2 (s1 r.val) % 16 ≤ 4 ∧ s2 (s1 r.val) < 256 := by decide +kernel
theorem s123 : ∀ (r : Fin 256), s3 (s2 (s1 r.val)) = ones 8 r.val := by decide +kernel

def of : List Nat → Nat
  | [] => 0
  | b :: r => 256 * of r + b

theorem of_s1 : ∀ bs : List Nat, (∀ b ∈ bs, b < 256) → (of bs / 2 &&& of (bs.map fun _ => 85)) + (of bs &&& of (bs.map fun _ => 85)) = of (bs.map s1)
  | [], _ => by simp [of]
  | b :: r, h => by
    have hb : b < 256 := h b (by simp)
    have ih := of_s1 r (fun x hx => h x (by simp [hx]))
    simp only [List.map_cons, of]
    have e1 : (256 * of r + b) / 2 = 256 * (of r / 2) + (of r % 2 * 128 + b / 2) := by omega
    have d := s1_dec ⟨b, hb⟩ ⟨of r % 2, by omega⟩
    simp only at d
    rw [e1, and_byte _ _ _ _ (by omega) (by omega), and_byte _ _ _ _ hb (by omega), d, ← ih]
    unfold s1
    omega
theorem of_s2 : ∀ bs : List Nat, (∀ b ∈ bs, b < 256) → (of bs / 4 &&& of (bs.map fun _ => 51)) + (of bs &&& of (bs.map fun _ => 51)) = of (bs.map s2)
  | [], _ => by simp [of]
  | b :: r, h => by
    have hb : b < 256 := h b (by simp)
    have ih := of_s2 r (fun x hx => h x (by simp [hx]))
    simp only [List.map_cons, of]
    have e1 : (256 * of r + b) / 4 = 256 * (of r / 4) + (of r % 4 * 64 + b / 4) := by omega
    have d := s2_dec ⟨b, hb⟩ ⟨of r % 4, by omega⟩
    simp only at d
    rw [e1, and_byte _ _ _ _ (by omega) (by omega), and_byte _ _ _ _ hb (by omega), d, ← ih]
    unfold s2
    omega
theorem of_mod16 : ∀ bs : List Nat, (∀ b ∈ bs, b < 256 ∧ b / 16 ≤ 4 ∧ b % 16 ≤ 4) → of bs % 16 ≤ 4
  | [], _ => by simp [of]
  | b :: r, h => by have := h b (by simp); simp only [of]; omega
theorem of_s3 : ∀ bs : List Nat, (∀ b ∈ bs, b < 256 ∧ b / 16 ≤ 4 ∧ b % 16 ≤ 4) → (of bs / 16 + of bs) &&& of (bs.map fun _ => 15) = of (bs.map s3)
  | [], _ => by simp [of]
  | b :: r, h => by
    have hb := h b (by simp)
    have hr := of_mod16 r (fun x hx => h x (by simp [hx]))
    have ih := of_s3 r (fun x hx => h x (by simp [hx]))
    simp only [List.map_cons, of]
    have e1 : (256 * of r + b) / 16 + (256 * of r + b) = 256 * (of r / 16 + of r) + (16 * (of r % 16) + b / 16 + b) := by omega
    have d := s3_dec ⟨16 * (of r % 16) + b / 16 + b, by omega⟩
    simp only at d
    rw [e1, and_byte _ _ _ _ (by omega) (by omega), ih, d]
    unfold s3
    omega

def y1 (x : Nat) : Nat := (x / 2 &&& 6148914691236517205) + (x &&& 6148914691236517205)
def y2 (x : Nat) : Nat := (x / 4 &&& 3689348814741910323) + (x &&& 3689348814741910323)
def y3 (x : Nat) : Nat := (x / 16 + x) &&& 1085102592571150095

def by8 (x : Nat) : List Nat := [x % 256, x / 256 % 256, x / 65536 % 256, x / 16777216 % 256, x / 4294967296 % 256, x / 1099511627776 % 256, x / 281474976710656 % 256, x / 72057594037927936 % 256]
theorem of_by8 (x : Nat) (hx : x < 18446744073709551616) : of (by8 x) = x := by simp only [by8, of]; omega
theorem by8_lt (x : Nat) : ∀ b ∈ by8 x, b < 256 := by
  intro b hb
  simp only [by8, List.mem_cons, List.not_mem_nil, or_false] at hb
  omega
theorem ones_by8 (x : Nat) (hx : x < 18446744073709551616) : ones 64 x = ((by8 x).map (ones 8)).sum := by
  have e (k : Nat) (z : Nat) : ones (8 + k) z = ones 8 (z % 256) + ones k (z / 256) := by
    rw [ones_add 8 k z]
    have := ones_mod 8 (z % 256) (z / 256)
    rw [show z % 256 + 2 ^ 8 * (z / 256) = z by simp only [show (2 : Nat) ^ 8 = 256 from rfl]; omega] at this
    rw [this]
  rw [show (64 : Nat) = 8 + 56 from rfl, e, show (56 : Nat) = 8 + 48 from rfl, e, show (48 : Nat) = 8 + 40 from rfl, e, show (40 : Nat) = 8 + 32 from rfl, e, show (32 : Nat) = 8 + 24 from rfl, e, show (24 : Nat) = 8 + 16 from rfl, e, show (16 : Nat) = 8 + 8 from rfl, e]
  rw [show ones 8 (x / 256 / 256 / 256 / 256 / 256 / 256 / 256) = ones 8 (x / 72057594037927936 % 256) by congr 1; omega]
  simp only [by8, List.map_cons, List.map_nil, List.sum_cons, List.sum_nil, Nat.div_div_eq_div_mul, Nat.reduceMul, Nat.add_zero]

theorem y_of (x : Nat) (hx : x < 18446744073709551616) : y1 x < 18446744073709551616 ∧ y2 (y1 x) < 18446744073709551616 ∧ y2 (y1 x) / 16 + y2 (y1 x) < 18446744073709551616 ∧ y3 (y2 (y1 x)) = of ((by8 x).map (ones 8)) := by
  have hl := by8_lt x
  have l1 : ∀ b ∈ (by8 x).map s1, b < 256 := by
    intro b hb
    obtain ⟨c, hc, rfl⟩ := List.mem_map.1 hb
    exact s1_lt ⟨c, hl c hc⟩
  have l2 : ∀ b ∈ ((by8 x).map s1).map s2, b < 256 ∧ b / 16 ≤ 4 ∧ b % 16 ≤ 4 := by
    intro b hb
    obtain ⟨c, hc, rfl⟩ := List.mem_map.1 hb
    obtain ⟨d, hd, rfl⟩ := List.mem_map.1 hc
    have := s2_nib ⟨d, hl d hd⟩
    exact ⟨this.2.2, this.1, this.2.1⟩
  have e1 : y1 x = of ((by8 x).map s1) := by
    have := of_s1 (by8 x) hl
    rw [of_by8 x hx, show of ((by8 x).map fun _ => 85) = 6148914691236517205 by simp [by8, of]] at this
    exact this
  have e2 : y2 (y1 x) = of (((by8 x).map s1).map s2) := by
    have := of_s2 _ l1
    rw [← e1, show of (((by8 x).map s1).map fun _ => 51) = 3689348814741910323 by simp [by8, of]] at this
    exact this
  have e3 : y3 (y2 (y1 x)) = of ((((by8 x).map s1).map s2).map s3) := by
    have := of_s3 _ l2
    rw [← e2, show of ((((by8 x).map s1).map s2).map fun _ => 15) = 1085102592571150095 by simp [by8, of]] at this
    exact this
  have e4 : (((by8 x).map s1).map s2).map s3 = (by8 x).map (ones 8) := by
    rw [List.map_map, List.map_map]
    apply List.map_congr_left
    intro b hb
    exact s123 ⟨b, hl b hb⟩
  have lt : ∀ a b c d e f g h : Nat, (∀ z ∈ [a, b, c, d, e, f, g, h], z < 256 ∧ z / 16 ≤ 4 ∧ z % 16 ≤ 4) → of [a, b, c, d, e, f, g, h] < 9837406187204771397 := by
    intro a b c d e f g h hz
    simp only [List.mem_cons, List.not_mem_nil, or_false, forall_eq_or_imp, forall_eq] at hz
    simp only [of]
    omega
  have lt2 : y2 (y1 x) < 9837406187204771397 := by
    rw [e2]; exact lt _ _ _ _ _ _ _ _ l2
  refine ⟨?_, by omega, by omega, by rw [e3, e4]⟩
  rw [e1]
  simp only [by8, List.map_cons, List.map_nil, List.mem_cons, List.not_mem_nil, or_false, forall_eq_or_imp, forall_eq] at l1
  simp only [by8, List.map_cons, List.map_nil, of]
  omega

theorem sum_of (a b c d e f g h : Nat) (ha : a ≤ 8) (hb : b ≤ 8) (hc : c ≤ 8) (hd : d ≤ 8) (he : e ≤ 8) (hf : f ≤ 8) (hg : g ≤ 8) (hh : h ≤ 8) (z : Nat) (hz : z = of [a, b, c, d, e, f, g, h]) :
    z + z / 256 < 18446744073709551616 ∧ (z + z / 256) + (z + z / 256) / 65536 < 18446744073709551616 ∧ (z + z / 256 + (z + z / 256) / 65536) + (z + z / 256 + (z + z / 256) / 65536) / 4294967296 < 9223372036854775808 ∧
    ((z + z / 256 + (z + z / 256) / 65536) + (z + z / 256 + (z + z / 256) / 65536) / 4294967296) % 128 = a + b + c + d + e + f + g + h := by
  simp only [of] at hz
  have k1 : z / 256 = b + 256 * (c + 256 * (d + 256 * (e + 256 * (f + 256 * (g + 256 * h))))) := by
    rw [hz]; omega
  have m2 : z + z / 256 = (a + b + 256 * (b + c)) + 65536 * ((c + d) + 256 * (d + e) + 65536 * (e + f) + 16777216 * (f + g) + 4294967296 * (g + h) + 1099511627776 * h) := by
    rw [k1, hz]; omega
  have k2 : (z + z / 256) / 65536 = (c + d) + 256 * (d + e) + 65536 * (e + f) + 16777216 * (f + g) + 4294967296 * (g + h) + 1099511627776 * h := by
    rw [m2, Nat.add_mul_div_left _ _ (by decide), Nat.div_eq_of_lt (by omega), Nat.zero_add]
  have m3 : z + z / 256 + (z + z / 256) / 65536 = (a + b + c + d + 256 * (b + c + d + e) + 65536 * (c + d + e + f) + 16777216 * (d + e + f + g)) + 4294967296 * ((e + f + g + h) + 256 * (f + g + h) + 65536 * (g + h) + 16777216 * h) := by
    rw [k2, m2]; omega
  have k3 : (z + z / 256 + (z + z / 256) / 65536) / 4294967296 = (e + f + g + h) + 256 * (f + g + h) + 65536 * (g + h) + 16777216 * h := by
    rw [m3, Nat.add_mul_div_left _ _ (by decide), Nat.div_eq_of_lt (by omega), Nat.zero_add]
  have b2 : z + z / 256 < 18446744073709551616 := by rw [m2]; clear m2 m3 k1 k2 k3 hz; omega
  have b3 : z + z / 256 + (z + z / 256) / 65536 < 18446744073709551616 := by rw [m3]; clear m2 m3 k1 k2 k3 hz b2; omega
  refine ⟨b2, b3, ?_, ?_⟩
  · rw [k3, m3]; clear m2 m3 k1 k2 k3 hz b2 b3; omega
  · rw [k3, m3]; clear m2 m3 k1 k2 k3 hz b2 b3; omega

theorem onesCount_plain (x : Nat) (hx : x < 18446744073709551616) :
    let z := y3 (y2 (y1 x))
    z + z / 256 < 18446744073709551616 ∧ (z + z / 256) + (z + z / 256) / 65536 < 18446744073709551616 ∧ (z + z / 256 + (z + z / 256) / 65536) + (z + z / 256 + (z + z / 256) / 65536) / 4294967296 < 9223372036854775808 ∧
    ((z + z / 256 + (z + z / 256) / 65536) + (z + z / 256 + (z + z / 256) / 65536) / 4294967296) % 128 = ones 64 x := by
  have h := (y_of x hx).2.2.2
  have g := sum_of _ _ _ _ _ _ _ _ (ones_le 8 (x % 256)) (ones_le 8 (x / 256 % 256)) (ones_le 8 (x / 65536 % 256)) (ones_le 8 (x / 16777216 % 256)) (ones_le 8 (x / 4294967296 % 256)) (ones_le 8 (x / 1099511627776 % 256)) (ones_le 8 (x / 281474976710656 % 256)) (ones_le 8 (x / 72057594037927936 % 256)) _ h
  refine ⟨g.1, g.2.1, g.2.2.1, g.2.2.2.trans ?_⟩
  rw [ones_by8 x hx]
  simp only [by8, List.map_cons, List.map_nil, List.sum_cons, List.sum_nil]
  omega

theorem bits_and_u64 (a b : Nat) (ha : a < 18446744073709551616) (hb : b < 18446744073709551616) : bits .and .u64 (a : Int) (b : Int) = ((a &&& b : Nat) : Int) := by
  have hx : a &&& b < 2 ^ 64 := Nat.and_lt_two_pow _ (by omega)
  have h1 : (BitVec.ofInt 64 (a : Int)).toNat = a := by
    rw [BitVec.ofInt_natCast, BitVec.toNat_ofNat]; exact Nat.mod_eq_of_lt (by omega)
  have h2 : (BitVec.ofInt 64 (b : Int)).toNat = b := by
    rw [BitVec.ofInt_natCast, BitVec.toNat_ofNat]; exact Nat.mod_eq_of_lt (by omega)
  show IntKind.u64.wrap ((BitVec.ofInt 64 (a : Int) &&& BitVec.ofInt 64 (b : Int)).toNat : Int) = _
  rw [BitVec.toNat_and, h1, h2]
  simp [IntKind.wrap, IntKind.bits, IntKind.signed]
  omega
theorem bits_and_i64 (a b : Nat) (ha : a < 9223372036854775808) (hb : b < 9223372036854775808) : bits .and .i64 (a : Int) (b : Int) = ((a &&& b : Nat) : Int) := by
  have hx : a &&& b < 2 ^ 63 := Nat.and_lt_two_pow _ (by omega)
  have h1 : (BitVec.ofInt 64 (a : Int)).toNat = a := by
    rw [BitVec.ofInt_natCast, BitVec.toNat_ofNat]; exact Nat.mod_eq_of_lt (by omega)
  have h2 : (BitVec.ofInt 64 (b : Int)).toNat = b := by
    rw [BitVec.ofInt_natCast, BitVec.toNat_ofNat]; exact Nat.mod_eq_of_lt (by omega)
  show IntKind.i64.wrap ((BitVec.ofInt 64 (a : Int) &&& BitVec.ofInt 64 (b : Int)).toNat : Int) = _
  rw [BitVec.toNat_and, h1, h2]
  simp [IntKind.wrap, IntKind.bits, IntKind.signed]
  omega
theorem wrap_u64 (a : Nat) (ha : a < 18446744073709551616) : IntKind.u64.wrap (a : Int) = a := by
  simp [IntKind.wrap, IntKind.bits, IntKind.signed]; omega

set_option maxRecDepth 100000 in
set_option maxHeartbeats 2000000 in
theorem oc64 (x : Nat) (hx : x < 18446744073709551616) (w : World) :
    Calls Tryf.prog 17 #[.int .u64 x] w fun e w' => e = .returned (.int .i64 (ones 64 x : Nat)) ∧ w' = w := by
  have l1 := (y_of x hx).1
  have l2 := (y_of x hx).2.1
  have l3 := (y_of x hx).2.2.1
  obtain ⟨l4, l5, l6, hl⟩ := onesCount_plain x hx
  have e1 : IntKind.u64.wrap (bits .and .u64 ((x : Int) / 2) 6148914691236517205 + bits .and .u64 (x : Int) 6148914691236517205) = (y1 x : Nat) := by
    rw [show ((x : Int) / 2) = ((x / 2 : Nat) : Int) by omega, show (6148914691236517205 : Int) = ((6148914691236517205 : Nat) : Int) from rfl, bits_and_u64 _ _ (by omega) (by omega), bits_and_u64 _ _ hx (by omega), ← Int.natCast_add]
    exact wrap_u64 _ l1
  have e2 : IntKind.u64.wrap (bits .and .u64 ((y1 x : Int) / 4) 3689348814741910323 + bits .and .u64 (y1 x : Int) 3689348814741910323) = (y2 (y1 x) : Nat) := by
    rw [show ((y1 x : Int) / 4) = ((y1 x / 4 : Nat) : Int) by omega, show (3689348814741910323 : Int) = ((3689348814741910323 : Nat) : Int) from rfl, bits_and_u64 _ _ (by omega) (by omega), bits_and_u64 _ _ l1 (by omega), ← Int.natCast_add]
    exact wrap_u64 _ l2
  have e3 : bits .and .u64 ((y2 (y1 x) : Int) / 16 + (y2 (y1 x) : Int)) 1085102592571150095 = (y3 (y2 (y1 x)) : Nat) := by
    rw [show ((y2 (y1 x) : Int) / 16) + (y2 (y1 x) : Int) = ((y2 (y1 x) / 16 + y2 (y1 x) : Nat) : Int) by omega, show (1085102592571150095 : Int) = ((1085102592571150095 : Nat) : Int) from rfl, bits_and_u64 _ _ l3 (by omega)]
    rfl
  generalize y3 (y2 (y1 x)) = z at *
  have e4 : IntKind.u64.wrap ((z : Int) + (z : Int) / 256) = ((z + z / 256 : Nat) : Int) := by
    rw [show (z : Int) + (z : Int) / 256 = ((z + z / 256 : Nat) : Int) by omega]; exact wrap_u64 _ l4
  generalize z + z / 256 = z4 at *
  have e5 : IntKind.u64.wrap ((z4 : Int) + (z4 : Int) / 65536) = ((z4 + z4 / 65536 : Nat) : Int) := by
    rw [show (z4 : Int) + (z4 : Int) / 65536 = ((z4 + z4 / 65536 : Nat) : Int) by omega]; exact wrap_u64 _ l5
  generalize z4 + z4 / 65536 = z5 at *
  have e6 : IntKind.u64.wrap ((z5 : Int) + (z5 : Int) / 4294967296) = ((z5 + z5 / 4294967296 : Nat) : Int) := by
    rw [show (z5 : Int) + (z5 : Int) / 4294967296 = ((z5 + z5 / 4294967296 : Nat) : Int) by omega]; exact wrap_u64 _ (by omega)
  generalize z5 + z5 / 4294967296 = z6 at *
  have e7 : bits .and .i64 (z6 : Int) 127 = ((ones 64 x : Nat) : Int) := by
    rw [show (127 : Int) = ((127 : Nat) : Int) from rfl, bits_and_i64 _ _ l6 (by omega), ← hl]
    have := Nat.and_two_pow_sub_one_eq_mod z6 7
    simp only [show (2 : Nat) ^ 7 - 1 = 127 from rfl, show (2 : Nat) ^ 7 = 128 from rfl] at this
    rw [this]
  go_enter Tryf.func17, Tryf.ntmps17
  go_wp2
  go_ret
  exact ⟨rfl, rfl⟩
set_option maxRecDepth 100000 in
set_option maxHeartbeats 2000000 in
theorem zzOnes_runs (x : Nat) (hx : x < 18446744073709551616) (w : World) :
    Calls Tryf.prog 7 #[.int .u64 x] w fun e w' => e = .returned (.int .i64 (ones 64 x : Nat)) ∧ w' = w := by
  go_enter Tryf.func7, Tryf.ntmps7
  go_wp2
  go_loop [3, 4] (fun c i => ∃ k : Nat, k ≤ 64 ∧ i = .int .i64 k ∧ c = .int .i64 (ones k x : Nat)) (fun _ i => 64 - (intOf i).toNat)
  case atStart => exact ⟨0, by omega, rfl, rfl⟩
  case round =>
    obtain ⟨k, hk, rfl, rfl⟩ := hrel
    have ho := ones_le k x
    by_cases hlt : k < 64
    · have hb : bits .and .u64 ((x : Int) / 2 ^ k) 1 = ((x / 2 ^ k % 2 : Nat) : Int) := by
        have e : (x : Int) / 2 ^ k = ((x / 2 ^ k : Nat) : Int) := by simp
        rw [e, show (1 : Int) = ((1 : Nat) : Int) from rfl, bits_and_u64 _ _ (Nat.lt_of_le_of_lt (Nat.div_le_self _ _) hx) (by omega), Nat.and_one_is_mod]
      have hs := ones_succ k x
      generalize x / 2 ^ k = y at *
      go_wp2
      · have h := ‹(((y % 2 : Nat) : Int) == 1) = true›
        rw [beq_iff_eq] at h
        exact ⟨⟨k + 1, by omega, by simp, by simp; omega⟩, by simp [intOf]; omega⟩
      · have h := ‹(((y % 2 : Nat) : Int) == 1) = false›
        rw [beq_eq_false_iff_ne] at h
        exact ⟨⟨k + 1, by omega, by simp, by simp; omega⟩, by simp [intOf]; omega⟩
    · obtain rfl : k = 64 := by omega
      go_wp2
      go_ret
      exact ⟨rfl, rfl⟩
end Go.Proofs.Qxb6613845aFmt
