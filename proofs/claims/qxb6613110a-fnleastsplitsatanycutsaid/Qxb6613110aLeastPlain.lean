/- What least answers, in plain words; that it is one; that it splits at any cut. -/
import Derived.Test.Qxb6613110aLeastOf
namespace Go.Proofs.Qxb6613110a
open Go.RowKit Go.Maps Go.Sort Go.Shelf
set_option linter.unusedVariables false

theorem empty_isEmpty : (⟨#[]⟩ : ByteArray).toList.isEmpty = true := by rw [ByteArray.toList_eq]; rfl

/-- the top of the range of clocks -/
def top : Int := 18446744073709551615

/-- c is the least clock over the counted members, h the first that has it; the top and "" where none is counted -/
def LeastSpec (n : Nat) (V : Nat → VW) (R : Nat → Int) (c : Int) (h : ByteArray) : Prop :=
  ((∀ i, i < n → countedB (V i) = false) ∧ c = top ∧ h = ⟨#[]⟩) ∨
  ∃ i, i < n ∧ countedB (V i) = true ∧ R i = c ∧ (V i).id = h ∧ (∀ j, j < i → countedB (V j) = true → c < R j) ∧ ∀ j, j < n → countedB (V j) = true → c ≤ R j

theorem least_spec {n : Nat} {V : Nat → VW} {R : Nat → Int} (hne : ∀ i, i < n → (V i).id.toList.isEmpty = false) : ∀ k, k ≤ n → LeastSpec k V R (leastTo V R k).1 (leastTo V R k).2
  | 0, _ => .inl ⟨fun i hi => absurd hi (by omega), rfl, rfl⟩
  | k + 1, hk => by
    have ih := least_spec (V := V) (R := R) hne k (by omega)
    cases hc : countedB (V k)
    · rw [least_skip hc]
      rcases ih with ⟨h1, h2, h3⟩ | ⟨i, h1, h2, h3, h4, h5, h6⟩
      · refine .inl ⟨fun i hi => ?_, h2, h3⟩
        by_cases e : i = k
        · rw [e]; exact hc
        · exact h1 i (by omega)
      · refine .inr ⟨i, by omega, h2, h3, h4, h5, fun j hj hcj => ?_⟩
        by_cases e : j = k
        · rw [e, hc] at hcj; cases hcj
        · exact h6 j (by omega) hcj
    · rcases ih with ⟨h1, h2, h3⟩ | ⟨i, h1, h2, h3, h4, h5, h6⟩
      · rw [least_take hc (.inl (by rw [h3]; exact empty_isEmpty))]
        refine .inr ⟨k, by omega, hc, rfl, rfl, fun j hj hcj => ?_, fun j hj hcj => ?_⟩
        · rw [h1 j hj] at hcj; cases hcj
        · by_cases e : j = k
          · rw [e]; exact Int.le_refl _
          · rw [h1 j (by omega)] at hcj; cases hcj
      · by_cases hl : R k < (leastTo V R k).1
        · rw [least_take hc (.inr hl)]
          refine .inr ⟨k, by omega, hc, rfl, rfl, fun j hj hcj => ?_, fun j hj hcj => ?_⟩
          · have := h6 j hj hcj; show R k < R j; omega
          · by_cases e : j = k
            · rw [e]; exact Int.le_refl _
            · have := h6 j (by omega) hcj; show R k ≤ R j; omega
        · rw [least_keep hc (by rw [← h4]; exact hne i (by omega)) hl]
          refine .inr ⟨i, by omega, h2, h3, h4, h5, fun j hj hcj => ?_⟩
          by_cases e : j = k
          · rw [e]; omega
          · exact h6 j (by omega) hcj

theorem LeastSpec.one {n : Nat} {V : Nat → VW} {R : Nat → Int} {c d : Int} {h g : ByteArray} (a : LeastSpec n V R c h) (b : LeastSpec n V R d g) : c = d ∧ h = g := by
  rcases a with ⟨a1, a2, a3⟩ | ⟨i, a1, a2, a3, a4, a5, a6⟩ <;> rcases b with ⟨b1, b2, b3⟩ | ⟨j, b1, b2, b3, b4, b5, b6⟩
  · exact ⟨a2.trans b2.symm, a3.trans b3.symm⟩
  · rw [a1 j b1] at b2; cases b2
  · rw [b1 i a1] at a2; cases a2
  · have h1 := a6 j b1 b2
    have h2 := b6 i a1 a2
    have e : c = d := by omega
    have e2 : i = j := by
      rcases Nat.lt_trichotomy i j with g | g | g
      · have := b5 i g a2; omega
      · exact g
      · have := a5 j g b2; omega
    exact ⟨e, by rw [← a4, ← b4, e2]⟩

/-- the first counted member whose clock is the least is the one that least names -/
theorem LeastSpec.first {n : Nat} {V : Nat → VW} {R : Nat → Int} {c : Int} {h : ByteArray} (a : LeastSpec n V R c h) {f : Nat} (hf : f < n) (h1 : countedB (V f) = true) (h2 : R f = c) (h3 : ∀ i, i < f → countedB (V i) = true → R i ≠ c) : h = (V f).id := by
  rcases a with ⟨a1, _, _⟩ | ⟨i, a1, a2, a3, a4, a5, a6⟩
  · rw [a1 f hf] at h1; cases h1
  · have e2 : i = f := by
      rcases Nat.lt_trichotomy i f with g | g | g
      · exact absurd a3 (h3 i g a2)
      · exact g
      · have := a5 f g h1; omega
    rw [← a4, e2]

theorem LeastSpec.le {n : Nat} {V : Nat → VW} {R : Nat → Int} {c : Int} {h : ByteArray} (a : LeastSpec n V R c h) {j : Nat} (hj : j < n) (hc : countedB (V j) = true) : c ≤ R j := by
  rcases a with ⟨a1, _, _⟩ | ⟨i, a1, a2, a3, a4, a5, a6⟩
  · rw [a1 j hj] at hc; cases hc
  · exact a6 j hj hc

theorem LeastSpec.nobody {n : Nat} {V : Nat → VW} {R : Nat → Int} {c : Int} {h : ByteArray} (a : LeastSpec n V R c h) (hn : ∀ i, i < n → countedB (V i) = true → R i ≠ c) : c = top ∧ h = ⟨#[]⟩ := by
  rcases a with ⟨_, a2, a3⟩ | ⟨i, a1, a2, a3, _⟩
  · exact ⟨a2, a3⟩
  · exact absurd a3 (hn i a1 a2)

/-- somebody is counted just where a holder is named -/
theorem LeastSpec.holder {n : Nat} {V : Nat → VW} {R : Nat → Int} {c : Int} {h : ByteArray} (a : LeastSpec n V R c h) (hne : ∀ i, i < n → (V i).id.toList.isEmpty = false) : (h.toList.isEmpty = false ∧ ∃ i, i < n ∧ countedB (V i) = true ∧ R i = c ∧ (V i).id = h) ∨ (h.toList.isEmpty = true ∧ ∀ i, i < n → countedB (V i) = false) := by
  rcases a with ⟨a1, a2, a3⟩ | ⟨i, a1, a2, a3, a4, _⟩
  · exact .inr ⟨by rw [a3]; exact empty_isEmpty, a1⟩
  · exact .inl ⟨by rw [← a4]; exact hne i a1, i, a1, a2, a3, a4⟩

/-- cut at k: the left part's answer where it has a holder whose clock is not above the right's -/
theorem LeastSpec.split {n k : Nat} {V : Nat → VW} {R : Nat → Int} {cl cr : Int} {hl hr : ByteArray} (hk : k ≤ n) (hne : ∀ i, i < n → (V i).id.toList.isEmpty = false)
    (l : LeastSpec k V R cl hl) (r : LeastSpec (n - k) (fun i => V (k + i)) (fun i => R (k + i)) cr hr) :
    (hl.toList.isEmpty = false → hr.toList.isEmpty = true ∨ cl ≤ cr → LeastSpec n V R cl hl) ∧ ((hl.toList.isEmpty = true ∨ (hr.toList.isEmpty = false ∧ cr < cl)) → LeastSpec n V R cr hr) := by
  refine ⟨fun h1 h2 => ?_, fun h1 => ?_⟩
  · rcases l with ⟨_, _, e⟩ | ⟨i, a1, a2, a3, a4, a5, a6⟩
    · rw [e, empty_isEmpty] at h1; cases h1
    · refine .inr ⟨i, by omega, a2, a3, a4, a5, fun j hj hc => ?_⟩
      by_cases e : j < k
      · exact a6 j e hc
      · have hc' : countedB ((fun i => V (k + i)) (j - k)) = true := by show countedB (V (k + (j - k))) = true; rw [show k + (j - k) = j by omega]; exact hc
        have := r.le (j := j - k) (by omega) hc'
        simp only [show k + (j - k) = j by omega] at this
        rcases h2 with h2 | h2
        · rcases r.holder (fun i hi => hne (k + i) (by omega)) with ⟨g, _⟩ | ⟨_, g⟩
          · rw [h2] at g; cases g
          · rw [g (j - k) (by omega)] at hc'; cases hc'
        · omega
  · rcases r with ⟨b1, b2, b3⟩ | ⟨i, b1, b2, b3, b4, b5, b6⟩
    · rcases h1 with h1 | ⟨h1, _⟩
      · refine .inl ⟨fun j hj => ?_, b2, b3⟩
        by_cases e : j < k
        · rcases l.holder (fun i hi => hne i (by omega)) with ⟨g, _⟩ | ⟨_, g⟩
          · rw [h1] at g; cases g
          · exact g j e
        · have := b1 (j - k) (by omega)
          simp only [show k + (j - k) = j by omega] at this
          exact this
      · rw [b3, empty_isEmpty] at h1; cases h1
    · refine .inr ⟨k + i, by omega, b2, b3, b4, fun j hj hc => ?_, fun j hj hc => ?_⟩
      · by_cases e : j < k
        · rcases h1 with h1 | ⟨_, h1⟩
          · rcases l.holder (fun i hi => hne i (by omega)) with ⟨g, _⟩ | ⟨_, g⟩
            · rw [h1] at g; cases g
            · rw [g j e] at hc; cases hc
          · have := l.le e hc; omega
        · have := b5 (j - k) (by omega) (by simp only [show k + (j - k) = j by omega]; exact hc)
          simp only [show k + (j - k) = j by omega] at this
          exact this
      · by_cases e : j < k
        · rcases h1 with h1 | ⟨_, h1⟩
          · rcases l.holder (fun i hi => hne i (by omega)) with ⟨g, _⟩ | ⟨_, g⟩
            · rw [h1] at g; cases g
            · rw [g j e] at hc; cases hc
          · have := l.le e hc; omega
        · have := b6 (j - k) (by omega) (by simp only [show k + (j - k) = j by omega]; exact hc)
          simp only [show k + (j - k) = j by omega] at this
          exact this
end Go.Proofs.Qxb6613110a
