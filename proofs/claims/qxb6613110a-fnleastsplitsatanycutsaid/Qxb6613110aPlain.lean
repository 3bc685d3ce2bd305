/- Plain laws: the order of strings, ascending rows, what a reading of a row answers. No Go function here. -/
import Derived.Laws.Strings
namespace Go.Proofs.Qxb6613110a

theorem bl_irrefl : ∀ a : List UInt8, Op.bytesLess a a = false
  | [] => by simp [Op.bytesLess]
  | a :: x => by simp [Op.bytesLess, bl_irrefl x, UInt8.lt_irrefl]

theorem bl_trans : ∀ a b c : List UInt8, Op.bytesLess a b = true → Op.bytesLess b c = true → Op.bytesLess a c = true
  | [], [], _, h, _ => by simp [Op.bytesLess] at h
  | _ :: _, [], _, h, _ => by simp [Op.bytesLess] at h
  | _, _ :: _, [], _, h => by simp [Op.bytesLess] at h
  | [], _ :: _, _ :: _, _, _ => by simp [Op.bytesLess]
  | a :: x, b :: y, c :: z, h, g => by
    simp only [Op.bytesLess, Bool.or_eq_true, decide_eq_true_eq, Bool.and_eq_true, beq_iff_eq] at h g ⊢
    rcases h with h | ⟨rfl, h⟩
    · rcases g with g | ⟨rfl, g⟩
      · exact .inl (UInt8.lt_trans h g)
      · exact .inl h
    · rcases g with g | ⟨rfl, g⟩
      · exact .inl g
      · exact .inr ⟨rfl, bl_trans x y z h g⟩

theorem bl_tri : ∀ a b : List UInt8, Op.bytesLess a b = false → Op.bytesLess b a = false → a = b
  | [], [], _, _ => rfl
  | [], _ :: _, h, _ => by simp [Op.bytesLess] at h
  | _ :: _, [], _, h => by simp [Op.bytesLess] at h
  | a :: x, b :: y, h, g => by
    simp only [Op.bytesLess, Bool.or_eq_false_iff, decide_eq_false_iff_not, Bool.and_eq_false_imp, beq_iff_eq] at h g
    have e : a = b := UInt8.le_antisymm (UInt8.not_lt.1 g.1) (UInt8.not_lt.1 h.1)
    subst e
    rw [bl_tri x y (h.2 rfl) (g.2 rfl)]

/-- the order of two strings -/
def sLess (a b : ByteArray) : Bool := Op.bytesLess a.toList b.toList

theorem toList_inj {a b : ByteArray} (h : a.toList = b.toList) : a = b := by
  rw [ByteArray.toList_eq, ByteArray.toList_eq] at h
  exact ByteArray.ext (Array.ext' h)

/-- an ascending row of n strings -/
def Asc (n : Nat) (S : Nat → ByteArray) : Prop := ∀ i, i + 1 < n → sLess (S i) (S (i + 1)) = true

theorem Asc.lt {n : Nat} {S : Nat → ByteArray} (h : Asc n S) (i j : Nat) (hij : i < j) (hj : j < n) : sLess (S i) (S j) = true := by
  induction j with
  | zero => omega
  | succ j ih =>
    by_cases e : i = j
    · subst e; exact h i hj
    · exact bl_trans _ _ _ (ih (by omega) (by omega)) (h j hj)

theorem sLess_irrefl (a : ByteArray) : sLess a a = false := bl_irrefl _

theorem Asc.inj {n : Nat} {S : Nat → ByteArray} (h : Asc n S) {i j : Nat} (hi : i < n) (hj : j < n) (e : S i = S j) : i = j := by
  rcases Nat.lt_trichotomy i j with g | g | g
  · have := h.lt i j g hj; rw [e, sLess_irrefl] at this; cases this
  · exact g
  · have := h.lt j i g hi; rw [e, sLess_irrefl] at this; cases this

/-- what a row of n entries (names S, clocks C) answers for m: the clock of the entry that bears m; 0 where none does -/
def Reads (n : Nat) (S : Nat → ByteArray) (C : Nat → Int) (m : ByteArray) (c : Int) : Prop :=
  (∃ i, i < n ∧ S i = m ∧ c = C i) ∨ ((∀ i, i < n → S i ≠ m) ∧ c = 0)

theorem Reads.one {n : Nat} {S : Nat → ByteArray} {C : Nat → Int} {m : ByteArray} {c d : Int} (h : Asc n S) (a : Reads n S C m c) (b : Reads n S C m d) : c = d := by
  rcases a with ⟨i, hi, ei, rfl⟩ | ⟨ha, rfl⟩ <;> rcases b with ⟨j, hj, ej, rfl⟩ | ⟨hb, rfl⟩
  · rw [h.inj hi hj (ei.trans ej.symm)]
  · exact absurd ei (hb i hi)
  · exact absurd ej (ha j hj)
  · rfl

end Go.Proofs.Qxb6613110a
