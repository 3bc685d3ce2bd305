/- Plain laws on a row without its k-th entry. -/
import Derived.Test.Qxb6613110aPlain
namespace Go.Proofs.Qxb6613110a

/-- the row without its k-th entry -/
def cutS {α : Type} (k : Nat) (S : Nat → α) (i : Nat) : α := if i < k then S i else S (i + 1)

theorem cut_asc {n k : Nat} {S : Nat → ByteArray} (h : Asc n S) (hk : k < n) : Asc (n - 1) (cutS k S) := by
  intro i hi
  unfold cutS
  by_cases h1 : i + 1 < k
  · rw [if_pos (by omega), if_pos h1]; exact h.lt i (i + 1) (by omega) (by omega)
  · rw [if_neg h1]
    by_cases h2 : i < k
    · rw [if_pos h2]; exact h.lt i (i + 1 + 1) (by omega) (by omega)
    · rw [if_neg h2]; exact h.lt (i + 1) (i + 1 + 1) (by omega) (by omega)

theorem reads_own {n k : Nat} {S : Nat → ByteArray} {C : Nat → Int} {c : Int} (h : Asc n S) (hk : k < n) (r : Reads n S C (S k) c) : c = C k :=
  Reads.one h r (.inl ⟨k, hk, rfl, rfl⟩)

theorem cut_ne {n k : Nat} {S : Nat → ByteArray} (h : Asc n S) (hk : k < n) (i : Nat) (hi : i < n - 1) : cutS k S i ≠ S k := by
  unfold cutS
  intro e
  by_cases h1 : i < k
  · rw [if_pos h1] at e; have := h.inj (by omega) hk e; omega
  · rw [if_neg h1] at e; have := h.inj (by omega) hk e; omega

theorem reads_gone {n k : Nat} {S : Nat → ByteArray} {C : Nat → Int} {c : Int} (h : Asc n S) (hk : k < n) (r : Reads (n - 1) (cutS k S) (cutS k C) (S k) c) : c = 0 := by
  rcases r with ⟨i, hi, e, _⟩ | ⟨_, e⟩
  · exact absurd e (cut_ne h hk i hi)
  · exact e

theorem reads_other {n k : Nat} {S : Nat → ByteArray} {C : Nat → Int} {m : ByteArray} {c d : Int} (h : Asc n S) (hk : k < n) (hm : m ≠ S k) (r : Reads n S C m c) (q : Reads (n - 1) (cutS k S) (cutS k C) m d) : c = d := by
  refine Reads.one h r ?_
  rcases q with ⟨i, hi, e, e2⟩ | ⟨hn, e2⟩
  · unfold cutS at e e2
    by_cases h1 : i < k
    · rw [if_pos h1] at e e2; exact .inl ⟨i, by omega, e, e2⟩
    · rw [if_neg h1] at e e2; exact .inl ⟨i + 1, by omega, e, e2⟩
  · refine .inr ⟨fun i hi e => ?_, e2⟩
    by_cases h1 : i < k
    · exact hn i (by omega) (by unfold cutS; rw [if_pos h1]; exact e)
    · by_cases h3 : i = k
      · exact hm (by rw [← e, h3])
      · exact hn (i - 1) (by omega) (by unfold cutS; rw [if_neg (by omega), show i - 1 + 1 = i by omega]; exact e)
end Go.Proofs.Qxb6613110a
