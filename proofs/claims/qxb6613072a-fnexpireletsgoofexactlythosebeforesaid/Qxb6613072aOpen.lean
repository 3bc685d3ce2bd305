/- The messages among the arguments, opened. -/
import Derived.Test.Qxb6613072aMap
import Derived.ProofKit
import Derived.OpenShut
import Derived.Deep.SlicePairs
import Derived.Deep.Strs
namespace Go.Proofs.Qxb6613072a
open Go.ChangeShapes Go.WideShapes Go.ChangeAt Go.RowKit Go.Deep
set_option linter.unusedVariables false

theorem add_fld (a : Addr) (k j : Nat) (hj : 0 < j) : a.add (k + j) = ⟨(a.add k).block, (a.add k).off + j, none⟩ := by
  unfold Addr.add
  rw [if_neg (by omega)]
  by_cases h : k = 0
  · subst h; simp
  · rw [if_neg h]; simp; omega

theorem cells36 : Try.prog.cellsOf 36 = 7 := by kernel_rfl
theorem cells34 : Try.prog.cellsOf 34 = 1 := by kernel_rfl
theorem cells2 : Try.prog.cellsOf 2 = 1 := by kernel_rfl

theorem list7 {α : Type} {l : List α} (h : l.length = 7) : ∃ a b c d e f g, l = [a, b, c, d, e, f, g] := by
  match l, h with
  | [a, b, c, d, e, f, g], _ => exact ⟨a, b, c, d, e, f, g, rfl⟩

theorem open_seqs {H : Type} {enc : TypeId × Value → H} {W : World} {fuel : Nat} {v : Value} {x : DataW H × List MemPlace}
    (h : DataW.trod enc Try.prog W 0 (fun _ => true) true fuel 34 [v] = some x) :
    ∃ (a : Option Addr) (n c : Nat) (q : Nat → Int), v = .slice a n c ∧ n ≤ maxLen ∧ ∀ k, k < n → ∃ sad : Addr, a = some sad ∧ W.cell? (sad.add k) = some (.int .i64 (q k)) := by
  rcases open_slice Try.underlying34 h with ⟨hcs, _⟩ | ⟨ad, len, cp, m, f, D, Pl, hcs, _, hl, hm, hmm, _, hx⟩
  · simp at hcs
    exact ⟨none, 0, 0, fun _ => 0, hcs, Nat.zero_le _, fun i hi => absurd hi (by omega)⟩
  · simp at hcs
    have hlm : len ≤ m := by rw [hmm]; simpa using hl
    have each : ∀ i, i < len → ∃ q : Int, W.cell? (ad.add i) = some (.int .i64 q) := by
      intro i hi
      obtain ⟨cs', h1, h2⟩ := hx i (by omega)
      rw [cells3] at h1
      obtain ⟨_, hlen, hcell⟩ := World.cells?_some h1
      obtain ⟨q, e, _, _⟩ := DataW.trod_int Try.underlying3 h2
      subst e
      have k0 := hcell 0 (by omega)
      rw [add_add] at k0
      exact ⟨q, by simpa using k0⟩
    obtain ⟨q, hq⟩ := choose_lt each
    exact ⟨some ad, len, cp, q, hcs, by omega, fun k hk => ⟨ad, rfl, hq k hk⟩⟩

theorem open_Msgs {H : Type} {enc : TypeId × Value → H} {W : World} {fuel : Nat} {a : Option Addr} {n cap : Nat} {x : DataW H × List MemPlace}
    (h : DataW.trod enc Try.prog W 0 (fun _ => true) true fuel 27 [.slice a n cap] = some x) :
    ∃ M : Nat → HM, n ≤ maxLen ∧ (∀ i, i < n → (M i).Wf ∧ (M i).sn ≤ maxLen) ∧ MsgO W a n M := by
  rcases open_slice Try.underlying27 h with ⟨hcs, _⟩ | ⟨ad, len, cp, m, f, D, Pl, hcs, _, hl, hm, hmm, _, hx⟩
  · simp at hcs
    obtain ⟨rfl, rfl, rfl⟩ := hcs
    exact ⟨fun _ => ⟨⟨#[]⟩, 0, 0, 0, 0, none, 0, 0, 0, fun _ => 0⟩, Nat.zero_le _, fun i hi => absurd hi (by omega), fun i hi => absurd hi (by omega)⟩
  · simp at hcs
    obtain ⟨rfl, rfl, rfl⟩ := hcs
    have hlm : n ≤ m := by rw [hmm]; simpa using hl
    have each : ∀ i, i < n → ∃ v : HM, (v.Wf ∧ v.sn ≤ maxLen) ∧ W.cell? (ad.add (i * 7)) = some (.string v.o) ∧ W.cell? ⟨(ad.add (i * 7)).block, (ad.add (i * 7)).off + 1, none⟩ = some (.int .u8 v.ty) ∧
        W.cell? ⟨(ad.add (i * 7)).block, (ad.add (i * 7)).off + 2, none⟩ = some (.int .i64 v.ref) ∧ W.cell? ⟨(ad.add (i * 7)).block, (ad.add (i * 7)).off + 3, none⟩ = some (.int .i64 v.tot) ∧
        W.cell? ⟨(ad.add (i * 7)).block, (ad.add (i * 7)).off + 4, none⟩ = some (.int .u8 v.el) ∧ W.cell? ⟨(ad.add (i * 7)).block, (ad.add (i * 7)).off + 5, none⟩ = some (.slice v.sa v.sn v.sc) ∧
        W.cell? ⟨(ad.add (i * 7)).block, (ad.add (i * 7)).off + 6, none⟩ = some (.int .i64 v.lat) ∧ ∀ k, k < v.sn → ∃ sad : Addr, v.sa = some sad ∧ W.cell? (sad.add k) = some (.int .i64 (v.q k)) := by
      intro i hi
      obtain ⟨cs', h1, h2⟩ := hx i (by omega)
      rw [cells36] at h1
      obtain ⟨_, hlen, hcell⟩ := World.cells?_some h1
      obtain ⟨xs, k, hk, hxy, _, hxl, hf⟩ := DataW.trod_struct Try.underlying36 h2
      obtain ⟨v0, v1, v2, v3, v4, v5, v6, rfl⟩ := list7 hlen
      obtain ⟨y0, y1, y2, y3, y4, y5, y6, rfl⟩ := list7 (by simpa using hxl)
      have f0 := hf 0 _ rfl
      have f1 := hf 1 _ rfl
      have f2 := hf 2 _ rfl
      have f3 := hf 3 _ rfl
      have f4 := hf 4 _ rfl
      have f5 := hf 5 _ rfl
      have f6 := hf 6 _ rfl
      simp [cells9, cells3, cells5, cells34, cells2] at f0 f1 f2 f3 f4 f5 f6
      obtain ⟨s0, e0, _, z0⟩ := DataW.trod_string Try.underlying9 f0
      obtain ⟨s1, e1, _, z1⟩ := DataW.trod_int Try.underlying5 f1
      obtain ⟨s2, e2, _, z2⟩ := DataW.trod_int Try.underlying3 f2
      obtain ⟨s3, e3, _, z3⟩ := DataW.trod_int Try.underlying3 f3
      obtain ⟨s4, e4, _, z4⟩ := DataW.trod_int Try.underlying5 f4
      obtain ⟨sa, sn, sc, q, e5, z5, hq⟩ := open_seqs f5
      obtain ⟨s6, e6, _, z6⟩ := DataW.trod_int Try.underlying2 f6
      simp at e0 e1 e2 e3 e4 e6
      subst e0 e1 e2 e3 e4 e5 e6
      have k0 := hcell 0 (by omega)
      have k1 := hcell 1 (by omega)
      have k2 := hcell 2 (by omega)
      have k3 := hcell 3 (by omega)
      have k4 := hcell 4 (by omega)
      have k5 := hcell 5 (by omega)
      have k6 := hcell 6 (by omega)
      rw [add_add] at k0 k1 k2 k3 k4 k5 k6
      rw [add_fld ad (i * 7) 1 (by omega)] at k1
      rw [add_fld ad (i * 7) 2 (by omega)] at k2
      rw [add_fld ad (i * 7) 3 (by omega)] at k3
      rw [add_fld ad (i * 7) 4 (by omega)] at k4
      rw [add_fld ad (i * 7) 5 (by omega)] at k5
      rw [add_fld ad (i * 7) 6 (by omega)] at k6
      exact ⟨⟨s0, s1, s2, s3, s4, sa, sn, sc, s6, q⟩, ⟨⟨z0, z1, z2, z3, z4, z6⟩, z5⟩, by simpa using k0, by simpa using k1, by simpa using k2, by simpa using k3, by simpa using k4, by simpa using k5, by simpa using k6, hq⟩
    have : Inhabited HM := ⟨⟨⟨#[]⟩, 0, 0, 0, 0, none, 0, 0, 0, fun _ => 0⟩⟩
    obtain ⟨M, hM⟩ := choose_lt each
    exact ⟨M, by omega, fun i hi => (hM i hi).1, fun i hi => ⟨ad, rfl, (hM i hi).2⟩⟩
end Go.Proofs.Qxb6613072a
