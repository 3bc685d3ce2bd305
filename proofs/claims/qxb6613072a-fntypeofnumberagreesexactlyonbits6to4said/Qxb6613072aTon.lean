import Derived.Test.Qxb6613072aRows
import Derived.WalkKit
import Derived.ProofKit
namespace Go.Proofs.Qxb6613072a
open Go.ChangeShapes Go.WideShapes Go.ChangeAt Go.RowKit

theorem grown_trans {a b c : World} (h : Grown a b) (g : Grown b c) : Grown a c :=
  ⟨World.keptBut_trans h.1 g.1, fun x => (g.2.1 x).trans (h.2.1 x), Nat.le_trans h.2.2 g.2.2⟩

theorem ret_bool {a b : Bool} (h : a = b) : Ending.returned (.bool a) = .returned (.bool b) := by rw [h]

theorem step_law (a : Int) : ((a + 16) % 256 / 16 % 8 == (a / 16 + 1) % 8) = true := by
  rw [beq_iff_eq]; omega

theorem and112 : ∀ x : Fin 256, x.val &&& 112 = x.val / 16 % 8 * 16 := by decide +kernel
theorem xor8 : ∀ x y : Fin 8, (x.val ^^^ y.val = 0 ↔ x.val = y.val) := by decide +kernel
theorem xor_part (x y : Nat) : (x ^^^ y) / 16 % 8 = (x / 16 % 8) ^^^ (y / 16 % 8) := by
  apply Nat.eq_of_testBit_eq
  intro i
  rw [show (16 : Nat) = 2 ^ 4 from rfl, show (8 : Nat) = 2 ^ 3 from rfl]
  simp only [Nat.testBit_xor, Nat.testBit_mod_two_pow, Nat.testBit_div_two_pow]
  by_cases h : i < 3 <;> simp [h]
theorem agree_nat (x y : Nat) (hx : x < 256) (hy : y < 256) : (x ^^^ y) &&& 112 = 0 ↔ x / 16 % 8 = y / 16 % 8 := by
  have hxy : x ^^^ y < 2 ^ 8 := Nat.xor_lt_two_pow (by omega) (by omega)
  have h1 := and112 ⟨x ^^^ y, by omega⟩
  have h2 := xor_part x y
  have h3 := xor8 ⟨x / 16 % 8, by omega⟩ ⟨y / 16 % 8, by omega⟩
  simp only at h1 h3
  omega

theorem bits_xor_u8 (a b : Nat) (ha : a < 256) (hb : b < 256) : bits .xor .u8 (a : Int) (b : Int) = ((a ^^^ b : Nat) : Int) := by
  have hx : a ^^^ b < 2 ^ 8 := Nat.xor_lt_two_pow (by omega) (by omega)
  have h1 : (BitVec.ofInt 8 (a : Int)).toNat = a := by
    rw [BitVec.ofInt_natCast, BitVec.toNat_ofNat]; exact Nat.mod_eq_of_lt (by omega)
  have h2 : (BitVec.ofInt 8 (b : Int)).toNat = b := by
    rw [BitVec.ofInt_natCast, BitVec.toNat_ofNat]; exact Nat.mod_eq_of_lt (by omega)
  show IntKind.u8.wrap ((BitVec.ofInt 8 (a : Int) ^^^ BitVec.ofInt 8 (b : Int)).toNat : Int) = _
  rw [BitVec.toNat_xor, h1, h2]
  simp [IntKind.wrap, IntKind.bits, IntKind.signed]
  omega

theorem bits_and_u8 (a b : Nat) (ha : a < 256) (hb : b < 256) : bits .and .u8 (a : Int) (b : Int) = ((a &&& b : Nat) : Int) := by
  have hx : a &&& b < 2 ^ 8 := Nat.and_lt_two_pow _ (by omega)
  have h1 : (BitVec.ofInt 8 (a : Int)).toNat = a := by
    rw [BitVec.ofInt_natCast, BitVec.toNat_ofNat]; exact Nat.mod_eq_of_lt (by omega)
  have h2 : (BitVec.ofInt 8 (b : Int)).toNat = b := by
    rw [BitVec.ofInt_natCast, BitVec.toNat_ofNat]; exact Nat.mod_eq_of_lt (by omega)
  show IntKind.u8.wrap ((BitVec.ofInt 8 (a : Int) &&& BitVec.ofInt 8 (b : Int)).toNat : Int) = _
  rw [BitVec.toNat_and, h1, h2]
  simp [IntKind.wrap, IntKind.bits, IntKind.signed]
  omega

theorem agree_law (a b : Int) (h0 : 0 ≤ a) (h1 : a ≤ 255) (g0 : 0 ≤ b) (g1 : b ≤ 255) :
    ((a / 16 % 8 == b / 16 % 8) == (bits BinOp.and IntKind.u8 (bits BinOp.xor IntKind.u8 a b) 112 == 0)) = true := by
  obtain ⟨x, rfl⟩ := Int.eq_ofNat_of_zero_le h0
  obtain ⟨y, rfl⟩ := Int.eq_ofNat_of_zero_le g0
  have hx : x < 256 := by omega
  have hy : y < 256 := by omega
  have hxy : x ^^^ y < 2 ^ 8 := Nat.xor_lt_two_pow (by omega) (by omega)
  have hn := agree_nat x y hx hy
  rw [bits_xor_u8 x y hx hy, show (112 : Int) = ((112 : Nat) : Int) from rfl, bits_and_u8 _ _ (by omega) (by omega)]
  by_cases h : x / 16 % 8 = y / 16 % 8
  · have h2 := hn.2 h
    rw [beq_iff_eq, h2, beq_iff_eq.2 (show (x : Int) / 16 % 8 = (y : Int) / 16 % 8 by omega)]
    rfl
  · have h2 : ¬ (x ^^^ y) &&& 112 = 0 := fun h' => h (hn.1 h')
    rw [beq_iff_eq, beq_eq_false_iff_ne.2 (show (x : Int) / 16 % 8 ≠ (y : Int) / 16 % 8 by omega), beq_eq_false_iff_ne.2 (show (((x ^^^ y) &&& 112 : Nat) : Int) ≠ 0 by omega)]

theorem ton_any (a : Int) (s : ByteArray) (h0 : 0 ≤ a) (h1 : a ≤ 255) (w : World) :
    Calls Try.prog 10 #[.agg #[.int .u8 a, .string s]] w fun e w' => e = .returned (.int .u8 (a / 16 % 8)) ∧ Grown w w' := by
  go_enter Try.func10, Try.ntmps10
  go_wp2
  go_ret
  exact ⟨rfl, by repeat (first | exact Grown.refl _ | apply Grown.drew | apply Grown.alloc)⟩

theorem bytes1_any (a : Int) (s : ByteArray) (hs : s.size ≤ maxLen) (w : World) :
    Calls Try.prog 9 #[.int .u8 a, .string s] w fun e w' => e = .returned (.bool (decide (s.size ≤ 1048576))) ∧ w' = w := by
  unfold maxLen at hs
  by_cases h : s.size ≤ 1048576
  · go_enter Try.func9, Try.ntmps9
    go_wp2
    go_ret
    exact ⟨by simp [h], rfl⟩
  · go_enter Try.func9, Try.ntmps9
    go_wp2
    go_ret
    exact ⟨by simp [h], rfl⟩

theorem walk (a0 : Int) (a1 : ByteArray) (h0 : 0 ≤ a0) (h1 : a0 ≤ 255) (w1 : a1.size ≤ maxLen) (w : World) :
    Calls Try.prog 3 #[.int .u8 a0, .string a1] w fun e w' => e = .returned (.bool true) ∧ Grown w w' := by
  by_cases hs : a1.size ≤ 1048576
  · go_enter Try.func3, Try.ntmps3
    go_wp2_with (go_at_call 9; refine (bytes1_any _ _ w1 _).mono ?_; rintro e w' ⟨rfl, rfl⟩)
    refine (ton_any _ _ h0 h1 _).mono ?_
    rintro e w1 ⟨rfl, hg1⟩
    go_wp2_with fail
    refine (ton_any _ _ (by omega) (by omega) _).mono ?_
    rintro e w2 ⟨rfl, hg2⟩
    go_wp2
    go_ret
    exact ⟨ret_bool (step_law a0), grown_trans hg1 hg2⟩
  · go_enter Try.func3, Try.ntmps3
    go_wp2_with (go_at_call 9; refine (bytes1_any _ _ w1 _).mono ?_; rintro e w' ⟨rfl, rfl⟩)
    go_ret
    exact ⟨rfl, by repeat (first | exact Grown.refl _ | apply Grown.drew | apply Grown.alloc)⟩

theorem bytes2_any (a b : Int) (s t : ByteArray) (hs : s.size ≤ maxLen) (ht : t.size ≤ maxLen) (w : World) :
    Calls Try.prog 11 #[.int .u8 a, .string s, .int .u8 b, .string t] w fun e w' => e = .returned (.bool (decide (s.size + t.size ≤ 1048576))) ∧ w' = w := by
  unfold maxLen at hs ht
  by_cases h : s.size ≤ 1048576
  · by_cases h2 : t.size ≤ 1048576
    · by_cases h3 : s.size + t.size ≤ 1048576
      · go_enter Try.func11, Try.ntmps11
        go_wp2
        go_ret
        exact ⟨by simp [h3], rfl⟩
      · go_enter Try.func11, Try.ntmps11
        go_wp2
        go_ret
        exact ⟨by simp [h3], rfl⟩
    · go_enter Try.func11, Try.ntmps11
      go_wp2
      go_ret
      exact ⟨by simp; omega, rfl⟩
  · go_enter Try.func11, Try.ntmps11
    go_wp2
    go_ret
    exact ⟨by simp; omega, rfl⟩

theorem walk2 (a b : Int) (s t : ByteArray) (h0 : 0 ≤ a) (h1 : a ≤ 255) (g0 : 0 ≤ b) (g1 : b ≤ 255) (hs : s.size ≤ maxLen) (ht : t.size ≤ maxLen) (w : World) :
    Calls Try.prog 4 #[.int .u8 a, .string s, .int .u8 b, .string t] w fun e w' => e = .returned (.bool true) ∧ Grown w w' := by
  by_cases h3 : s.size + t.size ≤ 1048576
  · go_enter Try.func4, Try.ntmps4
    go_wp2_with fail
    refine (bytes2_any _ _ _ _ hs ht _).mono ?_
    rintro e w1 ⟨rfl, rfl⟩
    go_wp2_with fail
    refine (ton_any _ _ h0 h1 _).mono ?_
    rintro e w1 ⟨rfl, hg1⟩
    go_wp2_with fail
    refine (ton_any _ _ g0 g1 _).mono ?_
    rintro e w2 ⟨rfl, hg2⟩
    go_wp2
    go_ret
    exact ⟨ret_bool (agree_law a b h0 h1 g0 g1), grown_trans hg1 hg2⟩
  · go_enter Try.func4, Try.ntmps4
    go_wp2_with fail
    refine (bytes2_any _ _ _ _ hs ht _).mono ?_
    rintro e w1 ⟨rfl, rfl⟩
    go_wp2
    go_ret
    exact ⟨rfl, Grown.refl _⟩
end Go.Proofs.Qxb6613072a
