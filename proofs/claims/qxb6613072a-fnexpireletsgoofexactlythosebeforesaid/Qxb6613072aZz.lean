/- ZZexpire; what buildJoiner leaves, as a joiner. -/
import Derived.Test.Qxb6613072aExp
namespace Go.Proofs.Qxb6613072a
open Go.RowKit Go.Maps

/-- incomplete's contract -/
def IncOk (M : Nat → HM) : Prop :=
  ∀ (Hd : Nat → Prop) (pb : Nat → Nat) (jb : Nat) (mo : Option Nat) (y : Int) (W : World) (tb : Nat), JHo M Hd pb W jb mo → W.cell? ⟨tb, 0, none⟩ = some (.int .u64 (y % 1000000000)) → W.cell? ⟨tb, 1, none⟩ = some (.int .i64 (y / 1000000000)) → W.cell? ⟨tb, 2, none⟩ = some (.pointer none) →
    Calls Try.prog 29 #[.pointer (some ⟨jb, 0, none⟩), .func (.func 32) #[] #[.pointer (some ⟨tb, 0, none⟩)]] W fun e w' => ∃ lb L c ix, e = .returned (.slice (some ⟨lb, 0, none⟩) L c) ∧ Hid (IncOut M Hd y W L lb ix w')

set_option maxRecDepth 100000 in
set_option maxHeartbeats 1000000 in
theorem zzexp16 {M : Nat → HM} {Hd : Nat → Prop} {pb : Nat → Nat} (hInc : IncOk M) (jb : Nat) (mo : Option Nat) (y : Int) (w : World) (hJ : JHo M Hd pb w jb mo) (h0 : -9223372036854775808 ≤ y) (h1 : y ≤ 9223372036854775807) :
    Calls Try.prog 16 #[.pointer (some ⟨jb, 0, none⟩), .int .i64 y] w fun e w' => ∃ lb L c ix, e = .returned (.slice (some ⟨lb, 0, none⟩) L c) ∧ Hid (ExOut M Hd pb y w jb mo L lb ix w') := by
  have HJ : Hid (JHo M Hd pb w jb mo) := hJ
  have HI : Hid (IncOk M) := hInc
  clear hJ hInc
  go_enter Try.func16, Try.ntmps16
  go_wp2_with (first
    | (go_at_call 27; refine (add_runs y h0 h1 _).mono ?_; rintro e w1 ⟨rfl, hg⟩; have HG : Hid (w.grownBy w1 none) := hg; clear hg)
    | (go_at_call 26; refine (exp26 jb mo y w1 (HJ.out.grown HG.out) (fun W tb => HI.out Hd pb jb mo y W tb)).mono ?_; rintro e w2 ⟨lb, L, c, ix, rfl, HO⟩))
  go_ret
  exact ⟨lb, L, c, ix, rfl, exOut_base HG.out HO.out⟩

theorem jho_of_js {M : Nat → HM} {w0 w : World} {jb n : Nat} (h : JS M w0 jb n w) (hM : MsOK n M) (hn : n ≤ 4096) : ∃ pb mo, JHo M (· < n) pb w jb mo ∧ ∀ mb, mo = some mb → w0.heap.size ≤ mb := by
  obtain ⟨_, hjb, f, hf, _, hc⟩ := h
  have c0 := hf.cell (i := 0) (by omega)
  rcases hc with ⟨rfl, f0, _⟩ | ⟨_, f0, D, pb, ho, hm, hh⟩
  · rw [f0] at c0
    exact ⟨fun _ => 0, none, ⟨c0, fun mb e => (by cases e), fun _ i hi => by omega⟩, fun mb e => (by cases e)⟩
  · rw [f0] at c0
    refine ⟨pb, some (jb + 1), ⟨c0, fun mb e => ?_, fun e => (by cases e)⟩, fun mb e => by cases e; omega⟩
    cases e
    refine ⟨c0, ⟨n, D, hn, ho, hm⟩, hM.wf, fun i hi => (hh i hi).2, hM.sn, fun i j hi hj hne => ?_, fun i hi => by have := (hh i hi).1; omega, by omega⟩
    rcases Nat.lt_or_gt_of_ne hne with h | h
    · exact hM.ne i j h hj
    · exact (hM.ne j i h hi).symm

theorem msOK_of {n : Nat} {M : Nat → HM} (hw : ∀ i, i < n → (M i).Wf ∧ (M i).sn ≤ maxLen) (h : ReachTo M n) : MsOK n M :=
  ⟨fun i hi => (hw i hi).1, fun i hi => (h i hi).1, fun i k hik hk => klit_ne (hw i (by omega)).1 (hw k hk).1 ((h k hk).2 i hik)⟩

/-- how far the comparing has come: k of the list's entries lie before message i -/
def Upto (L : Nat) (ix : Nat → Nat) (i k : Nat) : Prop := (∀ t, t < k → ix t < i) ∧ ∀ t, k ≤ t → t < L → i ≤ ix t

theorem Upto.hit {P : Nat → Prop} {L : Nat} {ix : Nat → Nat} {i k : Nat} (hE : Enum P L ix) (h : Upto L ix i k) (hk : k ≤ L) (hi : P i) : k < L ∧ ix k = i ∧ Upto L ix (i + 1) (k + 1) := by
  obtain ⟨t, ht, e⟩ := hE.all i hi
  have h1 : k ≤ t := by
    rcases Nat.lt_or_ge t k with h' | h'
    · have := h.1 t h'; omega
    · exact h'
  have hkL : k < L := by omega
  have h2 := h.2 k (Nat.le_refl _) hkL
  have h3 : ix k = i := by
    rcases Nat.lt_or_ge k t with h' | h'
    · have := hE.mono k t h' ht; omega
    · have : k = t := by omega
      subst this; exact e
  refine ⟨hkL, h3, fun s hs => ?_, fun s hs hsL => ?_⟩
  · rcases Nat.lt_or_ge s k with h' | h'
    · have := h.1 s h'; omega
    · have : s = k := by omega
      subst this; omega
  · have := hE.mono k s (by omega) hsL; omega

theorem Upto.miss {P : Nat → Prop} {L : Nat} {ix : Nat → Nat} {i k : Nat} (hE : Enum P L ix) (h : Upto L ix i k) (hi : ¬ P i) : Upto L ix (i + 1) k := by
  refine ⟨fun s hs => by have := h.1 s hs; omega, fun s hs hsL => ?_⟩
  have h1 := h.2 s hs hsL
  have h2 : ix s ≠ i := fun e => hi (e ▸ hE.mem s hsL)
  omega

theorem Upto.fin {P : Nat → Prop} {L : Nat} {ix : Nat → Nat} {n k : Nat} (hE : Enum P L ix) (h : Upto L ix n k) (hk : k ≤ L) (hP : ∀ i, P i → i < n) : k = L := by
  rcases Nat.lt_or_ge k L with h' | h'
  · have h1 := h.2 k (Nat.le_refl _) h'
    have h2 := hP _ (hE.mem k h')
    omega
  · omega

theorem enum_none {P : Nat → Prop} {L : Nat} {ix : Nat → Nat} (hE : Enum P L ix) (h : ∀ i, ¬ P i) : L = 0 := by
  rcases Nat.eq_zero_or_pos L with h' | h'
  · exact h'
  · exact absurd (hE.mem 0 h') (h _)
end Go.Proofs.Qxb6613072a
