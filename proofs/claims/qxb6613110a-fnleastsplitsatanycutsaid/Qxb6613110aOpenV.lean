/- A view among the arguments, opened. -/
import Derived.Test.Qxb6613110aOpen
import Derived.Test.Qxb6613110aGone
namespace Go.Proofs.Qxb6613110a
open Go.ChangeShapes Go.WideShapes Go.ChangeAt Go.RowKit Go.Deep
set_option linter.unusedVariables false

theorem list6 {l : List Value} (h : l.length = 6) : ∃ a b c d e f, l = [a, b, c, d, e, f] := by
  match l, h with
  | [a, b, c, d, e, f], _ => exact ⟨a, b, c, d, e, f, rfl⟩
theorem list6' {α : Type} {l : List α} (h : l.length = 6) : ∃ a b c d e f, l = [a, b, c, d, e, f] := by
  match l, h with
  | [a, b, c, d, e, f], _ => exact ⟨a, b, c, d, e, f, rfl⟩

theorem open_View {H : Type} {enc : TypeId × Value → H} {W : World} {fuel : Nat} {a : Option Addr} {n cap : Nat} {x : DataW H × List MemPlace}
    (h : DataW.trod enc Try.prog W 0 (fun _ => true) true fuel 22 [.slice a n cap] = some x) :
    ∃ V : Nat → VW, (a = none → n = 0) ∧ n ≤ maxLen ∧ ViewWf n V ∧ ViewO W a n V := by
  rcases open_slice Try.underlying22 h with ⟨hcs, _⟩ | ⟨ad, len, cp, m, f, D, Pl, hcs, _, hl, hm, hmm, _, hx⟩
  · simp at hcs
    obtain ⟨rfl, rfl, rfl⟩ := hcs
    exact ⟨fun _ => ⟨⟨#[]⟩, ⟨#[]⟩, 0, false, 0, 0⟩, fun _ => rfl, Nat.zero_le _, fun i hi => absurd hi (by omega), fun i hi => absurd hi (by omega)⟩
  · simp at hcs
    obtain ⟨rfl, rfl, rfl⟩ := hcs
    have hlm : n ≤ m := by rw [hmm]; simpa using hl
    have each : ∀ i, i < n → ∃ v : VW, (v.id.size ≤ maxLen ∧ (Lit.int .u64 v.gone).wf = true) ∧ W.cell? (ad.add (i * 6)) = some (.string v.id) ∧ W.cell? ⟨(ad.add (i * 6)).block, (ad.add (i * 6)).off + 1, none⟩ = some (.string v.st) ∧
        W.cell? ⟨(ad.add (i * 6)).block, (ad.add (i * 6)).off + 2, none⟩ = some (.int .u64 v.inc) ∧ W.cell? ⟨(ad.add (i * 6)).block, (ad.add (i * 6)).off + 3, none⟩ = some (.bool v.sus) ∧
        W.cell? ⟨(ad.add (i * 6)).block, (ad.add (i * 6)).off + 4, none⟩ = some (.int .u64 v.sd) ∧ W.cell? ⟨(ad.add (i * 6)).block, (ad.add (i * 6)).off + 5, none⟩ = some (.int .u64 v.gone) := by
      intro i hi
      obtain ⟨cs', h1, h2⟩ := hx i (by omega)
      rw [cells38] at h1
      obtain ⟨_, hlen, hcell⟩ := World.cells?_some h1
      obtain ⟨xs, k, hk, hxy, _, hxl, hf⟩ := DataW.trod_struct Try.underlying38 h2
      obtain ⟨v0, v1, v2, v3, v4, v5, rfl⟩ := list6 hlen
      obtain ⟨y0, y1, y2, y3, y4, y5, rfl⟩ := list6' (by simpa using hxl)
      have f0 := hf 0 _ rfl
      have f1 := hf 1 _ rfl
      have f2 := hf 2 _ rfl
      have f3 := hf 3 _ rfl
      have f4 := hf 4 _ rfl
      have f5 := hf 5 _ rfl
      simp [cells9, cells28, cells4] at f0 f1 f2 f3 f4 f5
      obtain ⟨s0, e0, _, z0⟩ := DataW.trod_string Try.underlying9 f0
      obtain ⟨s1, e1, _, _⟩ := DataW.trod_string Try.underlying9 f1
      obtain ⟨s2, e2, _, _⟩ := DataW.trod_int Try.underlying28 f2
      obtain ⟨s3, e3, _⟩ := DataW.trod_bool Try.underlying4 f3
      obtain ⟨s4, e4, _, _⟩ := DataW.trod_int Try.underlying28 f4
      obtain ⟨s5, e5, _, z5⟩ := DataW.trod_int Try.underlying28 f5
      simp at e0 e1 e2 e3 e4 e5
      subst e0 e1 e2 e3 e4 e5
      have k0 := hcell 0 (by omega)
      have k1 := hcell 1 (by omega)
      have k2 := hcell 2 (by omega)
      have k3 := hcell 3 (by omega)
      have k4 := hcell 4 (by omega)
      have k5 := hcell 5 (by omega)
      rw [add_add] at k0 k1 k2 k3 k4 k5
      rw [add_fld ad (i * 6) 1 (by omega)] at k1
      rw [add_fld ad (i * 6) 2 (by omega)] at k2
      rw [add_fld ad (i * 6) 3 (by omega)] at k3
      rw [add_fld ad (i * 6) 4 (by omega)] at k4
      rw [add_fld ad (i * 6) 5 (by omega)] at k5
      exact ⟨⟨s0, s1, s2, s3, s4, s5⟩, ⟨z0, z5⟩, by simpa using k0, by simpa using k1, by simpa using k2, by simpa using k3, by simpa using k4, by simpa using k5⟩
    have : Inhabited VW := ⟨⟨⟨#[]⟩, ⟨#[]⟩, 0, false, 0, 0⟩⟩
    obtain ⟨V, hV⟩ := choose_lt each
    exact ⟨V, (fun h => by cases h), by omega, fun i hi => (hV i hi).1, fun i hi => ⟨ad, rfl, (hV i hi).2⟩⟩
end Go.Proofs.Qxb6613110a
