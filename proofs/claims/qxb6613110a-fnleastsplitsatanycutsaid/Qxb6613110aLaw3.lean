/- FnLeastIsFirstLeastOfCounted: the walk. -/
import Derived.Test.Qxb6613110aLeastPlain
import Derived.Test.Qxb6613110aGuards
namespace Go.Proofs.Qxb6613110a
open Go.RowKit Go.Maps Go.Sort Go.Shelf
set_option linter.unusedVariables false

/-- which member the loop has found so far -/
def Fnd (V : Nat → VW) (R : Nat → Int) (c : Int) (j : Nat) (f : Int) : Prop :=
  (f = -1 ∧ ∀ i, i < j → countedB (V i) = true → R i ≠ c) ∨ ∃ g : Nat, f = g ∧ g < j ∧ countedB (V g) = true ∧ R g = c ∧ ∀ i, i < g → countedB (V i) = true → R i ≠ c

theorem Fnd.skip {V : Nat → VW} {R : Nat → Int} {c : Int} {j : Nat} {f : Int} (h : Fnd V R c j f) (hc : countedB (V j) = true → R j ≠ c) : Fnd V R c (j + 1) f := by
  rcases h with ⟨e, h⟩ | ⟨g, e, hg, r⟩
  · refine .inl ⟨e, fun i hi hci => ?_⟩
    by_cases e2 : i = j
    · subst e2; exact hc hci
    · exact h i (by omega) hci
  · exact .inr ⟨g, e, by omega, r⟩
theorem Fnd.more {V : Nat → VW} {R : Nat → Int} {c : Int} {j g : Nat} (h : Fnd V R c j (g : Int)) : Fnd V R c (j + 1) (g : Int) := by
  rcases h with ⟨e, h⟩ | ⟨g', e, hg, r⟩
  · omega
  · exact .inr ⟨g', e, by omega, r⟩
theorem Fnd.take {V : Nat → VW} {R : Nat → Int} {c : Int} {j : Nat} (h : Fnd V R c j (-1)) (hc : countedB (V j) = true) (hr : R j = c) : Fnd V R c (j + 1) (j : Int) := by
  rcases h with ⟨_, h⟩ | ⟨g, e, _⟩
  · exact .inr ⟨j, rfl, by omega, hc, hr, h⟩
  · omega

/-- leastOf, at what it answers -/
theorem leastOf_spec {av : Option Addr} {nv cv : Nat} {V : Nat → VW} {n : Nat} {S : Nat → ByteArray} {C : Nat → Int} {R : Nat → Int} (hn : n ≤ 1048576) (hnv : nv ≤ 1048576) (hA : Asc n S) (hO : ViewOK nv V) (hF : ViewWf nv V) (hR : ∀ i, i < nv → Reads n S C (V i).id (R i)) :
    ∃ c h, LeastSpec nv V R c h ∧ ∀ (a : Option Addr) (cap : Nat) (w : World), ViewO w av nv V → VEo w a n S C → Calls Try.prog 13 #[.slice av nv cv, .slice a n cap] w fun e w' => e = .returned (.tuple #[.int .u64 c, .string h]) ∧ w.grownBy w' none :=
  ⟨_, _, least_spec hO.2 nv (Nat.le_refl _), fun a cap w hV hS => leastOf13 av nv cv V a n cap S C R hn hnv hA hO hF hR w hV hS⟩

theorem reads_all (nv n : Nat) (V : Nat → VW) (S : Nat → ByteArray) (C : Nat → Int) : ∃ R : Nat → Int, ∀ i, i < nv → Reads n S C (V i).id (R i) :=
  ⟨fun i => (reads_exists n S C (V i).id).choose, fun i _ => (reads_exists n S C (V i).id).choose_spec⟩

set_option maxHeartbeats 2000000 in
set_option maxRecDepth 100000 in
theorem law3 (v a : Option Addr) (nv cv n cap : Nat) (V : Nat → VW) (S : Nat → ByteArray) (C : Nat → Int) (hv : nv ≤ maxLen) (hn : n ≤ maxLen) (h0 : a = none → n = 0) (hF : ViewWf nv V) (w : World) (hV : ViewO w v nv V) (hS : VEo w a n S C) :
    Calls Try.prog 3 #[.slice v nv cv, .slice a n cap] w fun e w' => e = .returned (.bool true) ∧ Below w.heap.size w w' := by
  have HV : Hid (ViewO w v nv V) := hV
  have HS : Hid (VEo w a n S C) := hS
  have HN : Hid (a = none → n = 0) := h0
  have HF : Hid (ViewWf nv V) := hF
  have hn' := hn
  have hv' := hv
  unfold maxLen at hn hv
  clear hS hV h0 hF
  by_cases hv2 : nv ≤ 4096
  · by_cases hn2 : n ≤ 4096
    · have d1 : decide ((4096 : Int) < (nv : Int)) = false := by simp; omega
      have d2 : decide ((4096 : Int) < (n : Int)) = false := by simp; omega
      go_enter Try.func3, Try.ntmps3
      go_wp2_with fail
      refine (bytes9 v a nv cv n cap V S C hv' hn' _ HV.out HS.out).mono ?_
      rintro e w1 ⟨⟨b, rfl⟩, rfl⟩
      cases b with
      | false =>
        go_wp2
        go_ret
        exact ⟨rfl, Below.refl _ _⟩
      | true =>
        go_wp2_with fail
        refine (sizeOK_any v a none none nv cv n cap 0 0 0 0 V S S S C C (by omega) (by omega) (by omega) (by omega) _ HV.out HS.out (fun i hi => absurd hi (by omega)) (fun i hi => absurd hi (by omega))).mono ?_
        rintro e w2 ⟨⟨b, rfl⟩, y, rfl⟩
        cases b with
        | false =>
          go_wp2
          go_ret
          exact ⟨rfl, gb_below (gb_drewN (gb_refl _ _) _)⟩
        | true =>
          have G2 : Hid (w1.grownBy (w1.drewN y) none) := gb_drewN (gb_refl _ _) _
          generalize w1.drewN y = w2 at G2 ⊢
          go_wp2_with fail
          refine (viewOK_any v nv cv V (by omega) _ (HV.out.new G2.out)).mono ?_
          rintro e w3 ⟨b, rfl, hb, y, rfl⟩
          have G3 : Hid (w1.grownBy (w2.drewN y) none) := gb_drewN G2.out _
          have HB : Hid (b = true → ViewOK nv V) := hb
          clear hb
          generalize w2.drewN y = w3 at G3 ⊢
          cases b with
          | false =>
            go_wp2
            go_ret
            exact ⟨rfl, gb_below G3.out⟩
          | true =>
            have HO : Hid (ViewOK nv V) := HB.out rfl
            clear HB
            go_wp2_with fail
            refine (vecOK_any a n cap S C (by omega) _ (HS.out.new G3.out)).mono ?_
            rintro e w4 ⟨b, rfl, hb, y, rfl⟩
            have G4 : Hid (w1.grownBy (w3.drewN y) none) := gb_drewN G3.out _
            have HB : Hid (b = true → Asc n S) := hb
            clear hb
            generalize w3.drewN y = w4 at G4 ⊢
            cases b with
            | false =>
              go_wp2
              go_ret
              exact ⟨rfl, gb_below G4.out⟩
            | true =>
              have HA : Hid (Asc n S) := HB.out rfl
              clear HB
              obtain ⟨R, hR⟩ := reads_all nv n V S C
              obtain ⟨c, h, hL, hC⟩ := leastOf_spec (av := v) (cv := cv) (by omega) (by omega) HA.out HO.out HF.out hR
              have HR : Hid (∀ i, i < nv → Reads n S C (V i).id (R i)) := hR
              have HL : Hid (LeastSpec nv V R c h) := hL
              have HC : Hid _ := hC
              clear hR hL hC
              go_wp2_with fail
              refine (buildVec_any a n cap S C (by omega) HN.out _ (HS.out.new G4.out)).mono ?_
              rintro e w5 ⟨a', c', rfl, hv5, hg⟩
              have G5 : Hid (w1.grownBy w5 none) := gb_trans G4.out hg
              have V5 : Hid (VEo w5 a' n S C) := hv5
              clear hv5 hg
              go_wp2_with fail
              refine Calls.mono (HC.out a' c' _ (HV.out.new G5.out) V5.out) ?_
              rintro e w6 ⟨rfl, hg⟩
              have G6 : Hid (w1.grownBy w6 none) := gb_trans G5.out hg
              clear hg HC G5 V5 G4 G3 G2
              go_wp2_with fail
              go_loopw [7, 8] (fun s7 s8 wr => ∃ (j : Nat) (f : Int), j ≤ nv ∧ s8 = .int .i64 j ∧ s7 = .int .i64 f ∧ Hid (Fnd V R c j f) ∧ Hid (w1.grownBy wr none)) (fun _ i _ => nv - (intOf i).toNat)
              case atStart => exact ⟨0, -1, Nat.zero_le _, rfl, rfl, .inl ⟨rfl, fun i hi => absurd hi (by omega)⟩, G6.out⟩
              case round =>
                obtain ⟨j, f, hj, rfl, rfl, HF2, G⟩ := hrel
                by_cases hlt : j < nv
                · obtain ⟨ad, rfl, e0, e1, e2, e3, e4, e5⟩ := HV.out j hlt
                  have hj' : (j : Int) < (nv : Int) := by omega
                  have g0 := G.out.cell e0 (by simp)
                  have g1 := G.out.cell e1 (by simp)
                  have g2 := G.out.cell e2 (by simp)
                  have g3 := G.out.cell e3 (by simp)
                  have g4 := G.out.cell e4 (by simp)
                  have g5 := G.out.cell e5 (by simp)
                  have E0 : Hid _ := e0
                  clear e0 e1 e2 e3 e4 e5
                  go_wp2_with fail
                  refine (counted_any (V j) _).mono ?_
                  rintro e w7 ⟨rfl, hg⟩
                  have G7 : Hid (w1.grownBy w7 none) := gb_trans G.out hg
                  clear hg g0 g1 g2 g3 g4 g5 G
                  cases hcb : countedB (V j)
                  · have HCB : Hid (countedB (V j) = false) := hcb
                    clear hcb
                    go_wp2
                    go_roundw
                    case rel => exact ⟨j + 1, f, by omega, by go_num, rfl, HF2.out.skip (fun h => by rw [HCB.out] at h; cases h), G7.out⟩
                    case measure => simp [intOf]; omega
                  · have HCB : Hid (countedB (V j) = true) := hcb
                    clear hcb
                    have g0 := G7.out.cell E0.out (by simp)
                    go_wp2_with fail
                    refine (lookup_any a n cap S C (V j).id (by omega) _ (HS.out.new G7.out)).mono ?_
                    rintro e w8 ⟨x, rfl, hx, rfl⟩
                    obtain rfl : x = R j := Reads.one HA.out hx (HR.out j hlt)
                    clear hx g0
                    have hle : c ≤ R j := HL.out.le hlt HCB.out
                    have hd : decide (R j < c) = false := by simp; omega
                    by_cases hf : f < 0
                    · obtain rfl : f = -1 := by
                        rcases HF2.out with ⟨e, _⟩ | ⟨g, e, _⟩ <;> omega
                      by_cases hRc : R j = c
                      · have hb : (R j == c) = true := by simpa using hRc
                        have HRc : Hid (R j = c) := hRc
                        clear hRc
                        go_wp2
                        go_roundw
                        case rel => exact ⟨j + 1, j, by omega, by go_num, rfl, HF2.out.take HCB.out HRc.out, G7.out⟩
                        case measure => simp [intOf]; omega
                      · have hb : (R j == c) = false := by simpa using hRc
                        have HRc : Hid (¬ R j = c) := hRc
                        clear hRc
                        go_wp2
                        go_roundw
                        case rel => exact ⟨j + 1, -1, by omega, by go_num, rfl, HF2.out.skip (fun _ => HRc.out), G7.out⟩
                        case measure => simp [intOf]; omega
                    · obtain ⟨g, rfl⟩ := Int.eq_ofNat_of_zero_le (by omega : 0 ≤ f)
                      have hd2 : decide ((g : Int) < 0) = false := by simp
                      go_wp2
                      go_roundw
                      case rel => exact ⟨j + 1, g, by omega, by go_num, rfl, HF2.out.more, G7.out⟩
                      case measure => simp [intOf]; omega
                · obtain rfl : j = nv := by omega
                  rcases HF2.out with ⟨rfl, hno⟩ | ⟨g, rfl, hg, hcg, hRg, hfg⟩
                  · obtain ⟨e1, e2⟩ := HL.out.nobody hno
                    have hb1 : (c == 18446744073709551615) = true := by rw [e1]; rfl
                    have hb2 : h.toList.isEmpty = true := by rw [e2]; exact empty_isEmpty
                    clear e1 e2 hno
                    go_wp2
                    go_ret
                    exact ⟨rfl, gb_below G.out⟩
                  · have e1 : h = (V g).id := HL.out.first hg hcg hRg hfg
                    have hb1 : (h.toList == (V g).id.toList) = true := by rw [e1]; simp
                    obtain ⟨ad, rfl, e0, _⟩ := HV.out g hg
                    have g0 := G.out.cell e0 (by simp)
                    have hd2 : decide ((g : Int) < 0) = false := by simp
                    have hg' : (g : Int) < (j : Int) := by omega
                    clear e1 e0 hcg hRg hfg
                    go_wp2
                    go_ret
                    exact ⟨rfl, gb_below G.out⟩
    · have d2 : decide ((4096 : Int) < (n : Int)) = true := by simp; omega
      go_enter Try.func3, Try.ntmps3
      go_wp2_with fail
      refine (bytes9 v a nv cv n cap V S C hv' hn' _ HV.out HS.out).mono ?_
      rintro e w1 ⟨⟨b, rfl⟩, rfl⟩
      cases b
      all_goals
        go_wp2
        go_ret
        exact ⟨rfl, Below.refl _ _⟩
  · have d2 : decide ((4096 : Int) < (nv : Int)) = true := by simp; omega
    go_enter Try.func3, Try.ntmps3
    go_wp2_with fail
    refine (bytes9 v a nv cv n cap V S C hv' hn' _ HV.out HS.out).mono ?_
    rintro e w1 ⟨⟨b, rfl⟩, rfl⟩
    cases b
    all_goals
      go_wp2
      go_ret
      exact ⟨rfl, Below.refl _ _⟩
end Go.Proofs.Qxb6613110a
