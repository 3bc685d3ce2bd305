/- FnLeastSplitsAtAnyCut: the walk. -/
import Derived.Test.Qxb6613110aLaw3
import Derived.Deep.Slices
namespace Go.Proofs.Qxb6613110a
open Go.RowKit Go.Maps Go.Sort Go.Shelf
set_option linter.unusedVariables false

theorem view_tail {w : World} {v : Option Addr} {nv cv k : Nat} {V : Nat → VW} (hcv : nv ≤ cv) (h : ViewO w v nv V) : ViewO w (if cv = k then v else v.map (·.add (k * 6))) (nv - k) (fun i => V (k + i)) := by
  intro i hi
  obtain ⟨ad, rfl, r⟩ := h (k + i) (by omega)
  rw [if_neg (by omega)]
  have e : (ad.add (k * 6)).add (i * 6) = ad.add ((k + i) * 6) := by rw [Deep.add_add]; congr 1; omega
  exact ⟨ad.add (k * 6), rfl, by rw [e]; exact r⟩

theorem slice_tail {v : Option Addr} {nv cv k : Nat} {w : World} (hk : k ≤ nv) : (Instr.sliceAt 22 (.slice v nv cv) (some (.int .i64 k)) none none).run Try.prog w = .ok (.slice (if cv = k then v else v.map (·.add (k * 6))) (nv - k) (cv - k)) w := by
  have he : Try.prog.underlying 22 = some (.slice (Try.prog.elem 22)) := by kernel_rfl
  rw [run_sliceAt_slice _ _ _ _ _ _ he, run_slice_l _ _ _ _ _ he _ _ (by omega) (by omega)]
  have hz : (sizeOf (Try.prog.elem 22)).run Try.prog w = .ok 6 w := by kernel_rfl
  rw [hz]
  simp [Result.andThen, sliced]

set_option maxHeartbeats 4000000 in
set_option maxRecDepth 100000 in
theorem law4 (v a : Option Addr) (nv cv n cap : Nat) (x : Int) (V : Nat → VW) (S : Nat → ByteArray) (C : Nat → Int) (hv : nv ≤ maxLen) (hn : n ≤ maxLen) (h0 : a = none → n = 0) (hcv : nv ≤ cv) (hcv2 : cv ≤ maxLen) (hF : ViewWf nv V) (w : World) (hV : ViewO w v nv V) (hS : VEo w a n S C) :
    Calls Try.prog 4 #[.slice v nv cv, .slice a n cap, .int .i64 x] w fun e w' => e = .returned (.bool true) ∧ Below w.heap.size w w' := by
  have HV : Hid (ViewO w v nv V) := hV
  have HS : Hid (VEo w a n S C) := hS
  have HN : Hid (a = none → n = 0) := h0
  have HF : Hid (ViewWf nv V) := hF
  have hn' := hn
  have hv' := hv
  unfold maxLen at hn hv hcv2
  clear hS hV h0 hF
  by_cases hv2 : nv ≤ 4096
  · by_cases hn2 : n ≤ 4096
    · have d1 : decide ((4096 : Int) < (nv : Int)) = false := by simp; omega
      have d2 : decide ((4096 : Int) < (n : Int)) = false := by simp; omega
      by_cases hx : 0 ≤ x ∧ x ≤ nv
      rotate_left
      · have hx' : x < 0 ∨ (nv : Int) < x := by omega
        go_enter Try.func4, Try.ntmps4
        go_wp2_with fail
        refine (bytes17 v a nv cv n cap x V S C hv' hn' _ HV.out HS.out).mono ?_
        rintro e w1 ⟨⟨b, rfl⟩, rfl⟩
        cases b with
        | false =>
          go_wp2
          go_ret
          exact ⟨rfl, Below.refl _ _⟩
        | true =>
          go_wp2_with fail
          refine (sizeOK_any v a none none nv cv n cap 0 0 0 0 V S S S C C (by omega) (by omega) (by omega) (by omega) _ HV.out HS.out (fun i hi => absurd hi (by omega)) (fun i hi => absurd hi (by omega))).mono ?_
          rintro e w2 ⟨⟨b, rfl⟩, y, rfl⟩
          cases b with
          | false =>
            go_wp2
            go_ret
            exact ⟨rfl, gb_below (gb_drewN (gb_refl _ _) _)⟩
          | true =>
            have G2 : Hid (w1.grownBy (w1.drewN y) none) := gb_drewN (gb_refl _ _) _
            generalize w1.drewN y = w2 at G2 ⊢
            go_wp2_with fail
            refine (viewOK_any v nv cv V (by omega) _ (HV.out.new G2.out)).mono ?_
            rintro e w3 ⟨b, rfl, hb, y, rfl⟩
            have G3 : Hid (w1.grownBy (w2.drewN y) none) := gb_drewN G2.out _
            have HB : Hid (b = true → ViewOK nv V) := hb
            clear hb
            generalize w2.drewN y = w3 at G3 ⊢
            cases b with
            | false =>
              go_wp2
              go_ret
              exact ⟨rfl, gb_below G3.out⟩
            | true =>
              have HO : Hid (ViewOK nv V) := HB.out rfl
              clear HB
              go_wp2_with fail
              refine (vecOK_any a n cap S C (by omega) _ (HS.out.new G3.out)).mono ?_
              rintro e w4 ⟨b, rfl, hb, y, rfl⟩
              have G4 : Hid (w1.grownBy (w3.drewN y) none) := gb_drewN G3.out _
              have HB : Hid (b = true → Asc n S) := hb
              clear hb
              generalize w3.drewN y = w4 at G4 ⊢
              cases b with
              | false =>
                go_wp2
                go_ret
                exact ⟨rfl, gb_below G4.out⟩
              | true =>
                clear HB
                rcases hx' with hx' | hx'
                · have d3 : decide (x < 0) = true := by simp; omega
                  go_wp2
                  go_ret
                  exact ⟨rfl, gb_below G4.out⟩
                · have d3 : decide (x < 0) = false := by simp; omega
                  have d4 : decide ((nv : Int) < x) = true := by simp; omega
                  go_wp2
                  go_ret
                  exact ⟨rfl, gb_below G4.out⟩
      obtain ⟨hx0, hx1⟩ := hx
      obtain ⟨k, rfl⟩ := Int.eq_ofNat_of_zero_le hx0
      have hk : k ≤ nv := by omega
      have d3 : decide ((k : Int) < 0) = false := by simp
      have d4 : decide ((nv : Int) < (k : Int)) = false := by simp; omega
      go_enter Try.func4, Try.ntmps4
      go_wp2_with fail
      refine (bytes17 v a nv cv n cap k V S C hv' hn' _ HV.out HS.out).mono ?_
      rintro e w1 ⟨⟨b, rfl⟩, rfl⟩
      cases b with
      | false =>
        go_wp2
        go_ret
        exact ⟨rfl, Below.refl _ _⟩
      | true =>
        go_wp2_with fail
        refine (sizeOK_any v a none none nv cv n cap 0 0 0 0 V S S S C C (by omega) (by omega) (by omega) (by omega) _ HV.out HS.out (fun i hi => absurd hi (by omega)) (fun i hi => absurd hi (by omega))).mono ?_
        rintro e w2 ⟨⟨b, rfl⟩, y, rfl⟩
        cases b with
        | false =>
          go_wp2
          go_ret
          exact ⟨rfl, gb_below (gb_drewN (gb_refl _ _) _)⟩
        | true =>
          have G2 : Hid (w1.grownBy (w1.drewN y) none) := gb_drewN (gb_refl _ _) _
          generalize w1.drewN y = w2 at G2 ⊢
          go_wp2_with fail
          refine (viewOK_any v nv cv V (by omega) _ (HV.out.new G2.out)).mono ?_
          rintro e w3 ⟨b, rfl, hb, y, rfl⟩
          have G3 : Hid (w1.grownBy (w2.drewN y) none) := gb_drewN G2.out _
          have HB : Hid (b = true → ViewOK nv V) := hb
          clear hb
          generalize w2.drewN y = w3 at G3 ⊢
          cases b with
          | false =>
            go_wp2
            go_ret
            exact ⟨rfl, gb_below G3.out⟩
          | true =>
            have HO : Hid (ViewOK nv V) := HB.out rfl
            clear HB
            go_wp2_with fail
            refine (vecOK_any a n cap S C (by omega) _ (HS.out.new G3.out)).mono ?_
            rintro e w4 ⟨b, rfl, hb, y, rfl⟩
            have G4 : Hid (w1.grownBy (w3.drewN y) none) := gb_drewN G3.out _
            have HB : Hid (b = true → Asc n S) := hb
            clear hb
            generalize w3.drewN y = w4 at G4 ⊢
            cases b with
            | false =>
              go_wp2
              go_ret
              exact ⟨rfl, gb_below G4.out⟩
            | true =>
              have HA : Hid (Asc n S) := HB.out rfl
              clear HB
              obtain ⟨R, hR⟩ := reads_all nv n V S C
              have HR : Hid (∀ i, i < nv → Reads n S C (V i).id (R i)) := hR
              clear hR
              go_wp2_with fail
              refine (buildVec_any a n cap S C (by omega) HN.out _ (HS.out.new G4.out)).mono ?_
              rintro e w5 ⟨a', c', rfl, hv5, hg⟩
              have G5 : Hid (w1.grownBy w5 none) := gb_trans G4.out hg
              have V5 : Hid (VEo w5 a' n S C) := hv5
              clear hv5 hg G4 G3 G2
              obtain ⟨cw, hw, hLw, hCw⟩ := leastOf_spec (av := v) (cv := cv) (by omega) (by omega) HA.out HO.out HF.out HR.out
              have LW : Hid (LeastSpec nv V R cw hw) := hLw
              have CW : Hid _ := hCw
              clear hLw hCw
              go_wp2_with fail
              refine Calls.mono (CW.out a' c' _ (HV.out.new G5.out) V5.out) ?_
              rintro e w6 ⟨rfl, hg⟩
              have G6 : Hid (w5.grownBy w6 none) := hg
              clear hg CW
              go_wp2_with fail
              have hOl : ViewOK k V := ⟨fun i hi => HO.out.1 i (by omega), fun i hi => HO.out.2 i (by omega)⟩
              have hFl : ViewWf k V := fun i hi => HF.out i (by omega)
              obtain ⟨cl, hl, hLl, hCl⟩ := leastOf_spec (av := v) (cv := cv) (by omega) (by omega) HA.out hOl hFl (fun i hi => HR.out i (by omega))
              have LL : Hid (LeastSpec k V R cl hl) := hLl
              have CL : Hid _ := hCl
              clear hLl hCl hOl hFl
              refine Calls.mono (CL.out a' c' _ (fun i hi => HV.out.new (gb_trans G5.out G6.out) i (by omega)) (V5.out.new G6.out)) ?_
              rintro e w7 ⟨rfl, hg⟩
              have G7 : Hid (w5.grownBy w7 none) := gb_trans G6.out hg
              clear hg CL G6
              have hOr : ViewOK (nv - k) (fun i => V (k + i)) := ⟨fun i hi => HO.out.1 (k + i) (by omega), fun i hi => HO.out.2 (k + i) (by omega)⟩
              have hFr : ViewWf (nv - k) (fun i => V (k + i)) := fun i hi => HF.out (k + i) (by omega)
              obtain ⟨v2, hv2e⟩ : ∃ v2, v2 = (if cv = k then v else v.map (·.add (k * 6))) := ⟨_, rfl⟩
              obtain ⟨cr, hr, hLr, hCr⟩ := leastOf_spec (av := v2) (cv := cv - k) (by omega) (by omega) HA.out hOr hFr (R := fun i => R (k + i)) (fun i hi => HR.out (k + i) (by omega))
              have LR : Hid (LeastSpec (nv - k) (fun i => V (k + i)) (fun i => R (k + i)) cr hr) := hLr
              have CR : Hid _ := hCr
              have VR : Hid (ViewO w7 v2 (nv - k) (fun i => V (k + i))) := by rw [hv2e]; exact view_tail hcv (HV.out.new (gb_trans G5.out G7.out))
              have hs2 : ∀ w, (Instr.sliceAt 22 (.slice v nv cv) (some (.int .i64 k)) none none).run Try.prog w = .ok (.slice v2 (nv - k) (cv - k)) w := fun w => by rw [hv2e]; exact slice_tail (by omega)
              clear hLr hCr hOr hFr hv2e
              go_wp2_with fail
              clear hs2
              refine Calls.mono (CR.out a' c' _ VR.out (V5.out.new G7.out)) ?_
              rintro e w8 ⟨rfl, hg⟩
              have G8 : Hid (w1.grownBy w8 none) := gb_trans G5.out (gb_trans G7.out hg)
              clear hg CR G7 VR V5 G5
              rcases LW.out.holder HO.out.2 with ⟨hbw, iw, hiw, hcw, hRw, hidw⟩ | ⟨hbw, hnone⟩
              · have HI : Hid (iw < nv ∧ countedB (V iw) = true ∧ R iw = cw ∧ (V iw).id = hw) := ⟨hiw, hcw, hRw, hidw⟩
                clear hiw hcw hRw hidw
                go_wp2_with fail
                go_loopw [14, 15] (fun s14 s15 wr => ∃ j : Nat, j ≤ nv ∧ s15 = .int .i64 j ∧ s14 = .bool false ∧ Hid (∀ i, i < j → countedB (V i) = false) ∧ Hid (w1.grownBy wr none)) (fun _ i _ => nv - (intOf i).toNat)
                case atStart => exact ⟨0, Nat.zero_le _, rfl, rfl, fun i hi => absurd hi (by omega), G8.out⟩
                case round =>
                  obtain ⟨j, hj, rfl, rfl, HNo, G⟩ := hrel
                  by_cases hlt : j < nv
                  · obtain ⟨ad, rfl, e0, e1, e2, e3, e4, e5⟩ := HV.out j hlt
                    have hj' : (j : Int) < (nv : Int) := by omega
                    have g0 := G.out.cell e0 (by simp)
                    have g1 := G.out.cell e1 (by simp)
                    have g2 := G.out.cell e2 (by simp)
                    have g3 := G.out.cell e3 (by simp)
                    have g4 := G.out.cell e4 (by simp)
                    have g5 := G.out.cell e5 (by simp)
                    clear e0 e1 e2 e3 e4 e5
                    go_wp2_with fail
                    refine (counted_any (V j) _).mono ?_
                    rintro e w9 ⟨rfl, hg⟩
                    have GE : Hid (w1.grownBy w9 none) := gb_trans G.out hg
                    clear hg g0 g1 g2 g3 g4 g5 G
                    cases hcb : countedB (V j)
                    · have HCB : Hid (countedB (V j) = false) := hcb
                      clear hcb
                      go_wp2
                      go_roundw
                      case rel =>
                        refine ⟨j + 1, by omega, by go_num, rfl, fun i hi => ?_, GE.out⟩
                        by_cases e : i = j
                        · rw [e]; exact HCB.out
                        · exact HNo.out i (by omega)
                      case measure => simp [intOf]; omega
                    · have HCB : Hid (countedB (V j) = true) := hcb
                      clear hcb
                      go_wp2_with fail
                      refine (lookup_any a n cap S C hw (by omega) _ (HS.out.new GE.out)).mono ?_
                      rintro e w10 ⟨x, rfl, hx, rfl⟩
                      obtain rfl : x = cw := by
                        have h1 := HR.out iw HI.out.1
                        rw [HI.out.2.2.2, HI.out.2.2.1] at h1
                        exact Reads.one HA.out hx h1
                      clear hx
                      have e0 : (x != x) = false := by simp
                      obtain ⟨cw, rfl⟩ : ∃ cw, cw = x := ⟨_, rfl⟩
                      cases hel : hl.toList.isEmpty
                      · have HEL : Hid (hl.toList.isEmpty = false) := hel
                        cases her : hr.toList.isEmpty
                        · have HER : Hid (hr.toList.isEmpty = false) := her
                          by_cases hle : cl ≤ cr
                          · have hd : decide (cl ≤ cr) = true := by simpa using hle
                            obtain ⟨rfl, rfl⟩ := LW.out.one ((LeastSpec.split hk HO.out.2 LL.out LR.out).1 HEL.out (.inr hle))
                            have e1 : (cw == cw) = true := by simp
                            have e2 : (hw.toList == hw.toList) = true := by simp
                            go_wp2
                            go_ret
                            exact ⟨rfl, gb_below GE.out⟩
                          · have hd : decide (cl ≤ cr) = false := by simpa using hle
                            obtain ⟨rfl, rfl⟩ := LW.out.one ((LeastSpec.split hk HO.out.2 LL.out LR.out).2 (.inr ⟨HER.out, by omega⟩))
                            have e1 : (cw == cw) = true := by simp
                            have e2 : (hw.toList == hw.toList) = true := by simp
                            go_wp2
                            go_ret
                            exact ⟨rfl, gb_below GE.out⟩
                        · have HER : Hid (hr.toList.isEmpty = true) := her
                          obtain ⟨rfl, rfl⟩ := LW.out.one ((LeastSpec.split hk HO.out.2 LL.out LR.out).1 HEL.out (.inl HER.out))
                          have e1 : (cw == cw) = true := by simp
                          have e2 : (hw.toList == hw.toList) = true := by simp
                          go_wp2
                          go_ret
                          exact ⟨rfl, gb_below GE.out⟩
                      · have HEL : Hid (hl.toList.isEmpty = true) := hel
                        obtain ⟨rfl, rfl⟩ := LW.out.one ((LeastSpec.split hk HO.out.2 LL.out LR.out).2 (.inl HEL.out))
                        have e1 : (cw == cw) = true := by simp
                        have e2 : (hw.toList == hw.toList) = true := by simp
                        go_wp2
                        go_ret
                        exact ⟨rfl, gb_below GE.out⟩
                  · exfalso
                    have := HNo.out iw (by have := HI.out.1; omega)
                    rw [HI.out.2.1] at this
                    cases this
              · have HI : Hid (∀ i, i < nv → countedB (V i) = false) := hnone
                clear hnone
                go_wp2_with fail
                go_loopw [14, 15] (fun s14 s15 wr => ∃ j : Nat, j ≤ nv ∧ s15 = .int .i64 j ∧ s14 = .bool false ∧ Hid (∀ i, i < j → countedB (V i) = false) ∧ Hid (w1.grownBy wr none)) (fun _ i _ => nv - (intOf i).toNat)
                case atStart => exact ⟨0, Nat.zero_le _, rfl, rfl, fun i hi => absurd hi (by omega), G8.out⟩
                case round =>
                  obtain ⟨j, hj, rfl, rfl, HNo, G⟩ := hrel
                  by_cases hlt : j < nv
                  · obtain ⟨ad, rfl, e0, e1, e2, e3, e4, e5⟩ := HV.out j hlt
                    have hj' : (j : Int) < (nv : Int) := by omega
                    have g0 := G.out.cell e0 (by simp)
                    have g1 := G.out.cell e1 (by simp)
                    have g2 := G.out.cell e2 (by simp)
                    have g3 := G.out.cell e3 (by simp)
                    have g4 := G.out.cell e4 (by simp)
                    have g5 := G.out.cell e5 (by simp)
                    clear e0 e1 e2 e3 e4 e5
                    go_wp2_with fail
                    refine (counted_any (V j) _).mono ?_
                    rintro e w9 ⟨rfl, hg⟩
                    have GE : Hid (w1.grownBy w9 none) := gb_trans G.out hg
                    clear hg g0 g1 g2 g3 g4 g5 G
                    cases hcb : countedB (V j)
                    · have HCB : Hid (countedB (V j) = false) := hcb
                      clear hcb
                      go_wp2
                      go_roundw
                      case rel =>
                        refine ⟨j + 1, by omega, by go_num, rfl, fun i hi => ?_, GE.out⟩
                        by_cases e : i = j
                        · rw [e]; exact HCB.out
                        · exact HNo.out i (by omega)
                      case measure => simp [intOf]; omega
                    · have HCB : Hid (countedB (V j) = true) := hcb
                      clear hcb
                      exfalso
                      have := HI.out j hlt
                      rw [HCB.out] at this
                      cases this
                  · have GE : Hid (w1.grownBy wr none) := G.out
                    have hel : hl.toList.isEmpty = true := by
                      rcases LL.out.holder (fun i hi => HO.out.2 i (by omega)) with ⟨_, i, h1, h2, _⟩ | ⟨h, _⟩
                      · rw [HI.out i (by omega)] at h2; cases h2
                      · exact h
                    have HEL : Hid (hl.toList.isEmpty = true) := hel
                    obtain ⟨rfl, rfl⟩ := LW.out.one ((LeastSpec.split hk HO.out.2 LL.out LR.out).2 (.inl HEL.out))
                    have e1 : (cw == cw) = true := by simp
                    have e2 : (hw.toList == hw.toList) = true := by simp
                    go_wp2
                    go_ret
                    exact ⟨rfl, gb_below GE.out⟩
    · have d2 : decide ((4096 : Int) < (n : Int)) = true := by simp; omega
      go_enter Try.func4, Try.ntmps4
      go_wp2_with fail
      refine (bytes17 v a nv cv n cap x V S C hv' hn' _ HV.out HS.out).mono ?_
      rintro e w1 ⟨⟨b, rfl⟩, rfl⟩
      cases b
      all_goals
        go_wp2
        go_ret
        exact ⟨rfl, Below.refl _ _⟩
  · have d2 : decide ((4096 : Int) < (nv : Int)) = true := by simp; omega
    go_enter Try.func4, Try.ntmps4
    go_wp2_with fail
    refine (bytes17 v a nv cv n cap x V S C hv' hn' _ HV.out HS.out).mono ?_
    rintro e w1 ⟨⟨b, rfl⟩, rfl⟩
    cases b
    all_goals
      go_wp2
      go_ret
      exact ⟨rfl, Below.refl _ _⟩
end Go.Proofs.Qxb6613110a
