/- The arguments, opened: a slice of entries, a slice of strings, a view. -/
import Derived.Test.Qxb6613110aReads
import Derived.ProofKit
import Derived.OpenShut
import Derived.Deep.SlicePairs
import Derived.Deep.Strs
namespace Go.Proofs.Qxb6613110a
open Go.ChangeShapes Go.WideShapes Go.ChangeAt Go.RowKit Go.Deep
set_option linter.unusedVariables false

theorem add_fld (a : Addr) (k j : Nat) (hj : 0 < j) : a.add (k + j) = ⟨(a.add k).block, (a.add k).off + j, none⟩ := by
  unfold Addr.add
  rw [if_neg (by omega)]
  by_cases h : k = 0
  · subst h; simp
  · rw [if_neg h]; simp; omega

theorem cells63 : Try.prog.cellsOf 63 = 2 := by kernel_rfl
theorem cells38 : Try.prog.cellsOf 38 = 6 := by kernel_rfl
theorem cells9 : Try.prog.cellsOf 9 = 1 := by kernel_rfl
theorem cells28 : Try.prog.cellsOf 28 = 1 := by kernel_rfl
theorem cells4 : Try.prog.cellsOf 4 = 1 := by kernel_rfl

theorem open_VE {H : Type} {enc : TypeId × Value → H} {W : World} {fuel : Nat} {a : Option Addr} {n cap : Nat} {x : DataW H × List MemPlace}
    (h : DataW.trod enc Try.prog W 0 (fun _ => true) true fuel 23 [.slice a n cap] = some x) :
    ∃ (S : Nat → ByteArray) (C : Nat → Int), (a = none → n = 0) ∧ n ≤ maxLen ∧ VEo W a n S C := by
  rcases open_slice_pairs Try.underlying23 Try.underlying63 cells63 rfl rfl cells9 cells28 h with ⟨hcs, _⟩ | ⟨ad, len, cp, m, f, V0, V1, D0, D1, P0, P1, hcs, _, hl, hm, hmm, _, hc⟩
  · simp at hcs
    obtain ⟨rfl, rfl, rfl⟩ := hcs
    exact ⟨fun _ => ⟨#[]⟩, fun _ => 0, fun _ => rfl, Nat.zero_le _, fun i hi => absurd hi (by omega)⟩
  · simp at hcs
    obtain ⟨rfl, rfl, rfl⟩ := hcs
    have hlm : n ≤ m := by rw [hmm]; simpa using hl
    have each : ∀ i, i < n → ∃ p : ByteArray × Int, V0 i = .string p.1 ∧ V1 i = .int .u64 p.2 := fun i hi => by
      obtain ⟨s, h1, _, _⟩ := DataW.trod_string Try.underlying9 (hc i (by omega)).2.2.1
      obtain ⟨c, h2, _, _⟩ := DataW.trod_int Try.underlying28 (hc i (by omega)).2.2.2
      exact ⟨(s, c), by simpa using h1, by simpa using h2⟩
    obtain ⟨q, hq⟩ := choose_lt each
    refine ⟨fun i => (q i).1, fun i => (q i).2, (fun h => by cases h), by omega, fun i hi => ⟨ad, rfl, ?_, ?_⟩⟩
    · rw [← (hq i hi).1]; exact (hc i (by omega)).1
    · rw [← (hq i hi).2, ← add_fld ad (i * 2) 1 (by omega)]; exact (hc i (by omega)).2.1

theorem open_Str {H : Type} {enc : TypeId × Value → H} {W : World} {fuel : Nat} {a : Option Addr} {n cap : Nat} {x : DataW H × List MemPlace}
    (h : DataW.trod enc Try.prog W 0 (fun _ => true) true fuel 56 [.slice a n cap] = some x) :
    ∃ (S : Nat → ByteArray), n ≤ maxLen ∧ StrO W a n S := by
  rcases open_strs Try.underlying56 Try.underlying9 cells9 h with ⟨hcs, _⟩ | ⟨ad, len, cp, m, Sx, hcs, _, hl, hm, hmm, _, hc⟩
  · simp at hcs
    obtain ⟨rfl, rfl, rfl⟩ := hcs
    exact ⟨fun _ => ⟨#[]⟩, Nat.zero_le _, fun i hi => absurd hi (by omega)⟩
  · simp at hcs
    obtain ⟨rfl, rfl, rfl⟩ := hcs
    have hlm : n ≤ m := by rw [hmm]; simpa using hl
    exact ⟨Sx, by omega, fun i hi => ⟨ad, rfl, (hc i (by omega)).1⟩⟩
end Go.Proofs.Qxb6613110a
