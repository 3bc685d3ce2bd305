/- FnWalkGetReadsEveryClock: the walk. -/
import Derived.Test.Qxb6613110aGet
import Derived.Test.Qxb6613110aSize
namespace Go.Proofs.Qxb6613110a
open Go.RowKit Go.Sort Go.Shelf
set_option linter.unusedVariables false

/-- a world of which I holds -/
structure InvW (I : World → Prop) where
  W : World
  ok : I W

theorem wp_region_inv {P : Program} {id : Nat} {Q : Exit → Act → World → Prop} {a : Act} {w : World} {l : List Oper} (I : World → Prop) (hm : P.follows .mixedOrders = true) (hB : Region.lexB .any l.toArray = true) (h0 : I w.drew)
    (h : wpQuiet P l.toArray (fun w' => ∃ p : InvW I, w' = p.W) (fun a' => ∀ w', (∃ p : InvW I, w' = p.W) → Q .normal a' w') l a) : (Code.region id l.toArray true).wp P Q a w :=
  wp_region_quiet (C := fun w' => ∃ p : InvW I, w' = p.W) hm hB ⟨⟨_, h0⟩, rfl⟩ (by simpa using h)

theorem reads_exists (n : Nat) (S : Nat → ByteArray) (C : Nat → Int) (m : ByteArray) : ∃ c, Reads n S C m c := by
  by_cases h : ∃ i, i < n ∧ S i = m
  · obtain ⟨i, hi, e⟩ := h
    exact ⟨C i, .inl ⟨i, hi, e, rfl⟩⟩
  · exact ⟨0, .inr ⟨fun i hi e => h ⟨i, hi, e⟩, rfl⟩⟩

/-- a walk in a world behind w -/
def WI (w : World) (pb : Nat) (a : Option Addr) (n cap : Nat) (S : Nat → ByteArray) (C : Nat → Int) (W : World) : Prop := w.grownBy W none ∧ ∃ k, WK W pb 0 a n cap k S C

theorem WI.get {w : World} {pb : Nat} {a : Option Addr} {n cap : Nat} {S : Nat → ByteArray} {C : Nat → Int} {W : World} (h : WI w pb a n cap S C W) (hb : w.heap.size ≤ pb) (hn : n ≤ 1048576) (hA : Asc n S) {m : ByteArray} {c : Int} (hc : Reads n S C m c) :
    Calls Try.prog 31 #[.pointer (some ⟨pb, 0, none⟩), .string m] W fun e w' => e = .returned (.int .u64 c) ∧ WI w pb a n cap S C w' := by
  obtain ⟨hg, k, hK⟩ := h
  refine (walkGet31 pb a n cap k S C m hn hA W hK).mono ?_
  rintro e w' ⟨d, k', rfl, hd, hK', hg'⟩
  obtain rfl := Reads.one hA hc hd
  exact ⟨rfl, gb_later hg hg' hb, k', hK'⟩

set_option maxHeartbeats 1000000 in
set_option maxRecDepth 100000 in
theorem law7 (a q : Option Addr) (n cap l lc : Nat) (S Q : Nat → ByteArray) (C : Nat → Int) (hn : n ≤ maxLen) (hl : l ≤ maxLen) (h0 : a = none → n = 0) (w : World) (hS : VEo w a n S C) (hQ : StrO w q l Q) :
    Calls Try.prog 7 #[.slice a n cap, .slice q l lc] w fun e w' => e = .returned (.bool true) ∧ Below w.heap.size w w' := by
  have HS : Hid (VEo w a n S C) := hS
  have HQ : Hid (StrO w q l Q) := hQ
  have HN : Hid (a = none → n = 0) := h0
  have hn' := hn
  have hl' := hl
  unfold maxLen at hn hl
  clear hS hQ h0
  by_cases hn2 : n ≤ 4096
  · by_cases hl2 : l ≤ 4096
    · have d1 : decide ((4096 : Int) < (n : Int)) = false := by simp; omega
      have d2 : decide ((4096 : Int) < (l : Int)) = false := by simp; omega
      go_enter Try.func7, Try.ntmps7
      go_wp2_with fail
      refine (bytes29 a q n cap l lc S Q C hn' hl' _ HS.out HQ.out).mono ?_
      rintro e w1 ⟨⟨b, rfl⟩, rfl⟩
      cases b with
      | false =>
        go_wp2
        go_ret
        exact ⟨rfl, Below.refl _ _⟩
      | true =>
        go_wp2_with fail
        refine (sizeOK_any none a none q 0 0 n cap 0 0 l lc (fun _ => ⟨⟨#[]⟩, ⟨#[]⟩, 0, false, 0, 0⟩) S S Q C C (by omega) (by omega) (by omega) (by omega) _ (fun i hi => absurd hi (by omega)) HS.out (fun i hi => absurd hi (by omega)) HQ.out).mono ?_
        rintro e w2 ⟨⟨b, rfl⟩, x, rfl⟩
        cases b with
        | false =>
          go_wp2
          go_ret
          exact ⟨rfl, gb_below (gb_drewN (gb_refl _ _) _)⟩
        | true =>
          have G2 : Hid (w1.grownBy (w1.drewN x) none) := gb_drewN (gb_refl _ _) _
          generalize w1.drewN x = w2 at G2 ⊢
          go_wp2_with fail
          refine (vecOK_any a n cap S C (by omega) _ (HS.out.new G2.out)).mono ?_
          rintro e w3 ⟨b, rfl, hb, x, rfl⟩
          have G3 : Hid (w1.grownBy (w2.drewN x) none) := gb_drewN G2.out _
          have HB : Hid (b = true → Asc n S) := hb
          clear hb
          generalize w2.drewN x = w3 at G3 ⊢
          cases b with
          | false =>
            go_wp2
            go_ret
            exact ⟨rfl, gb_below G3.out⟩
          | true =>
            have HA : Hid (Asc n S) := HB.out rfl
            clear HB
            go_wp2_with fail
            refine (buildVec_any a n cap S C (by omega) HN.out _ (HS.out.new G3.out)).mono ?_
            rintro e w4 ⟨a', c', rfl, hv, hg⟩
            have G4 : Hid (w1.grownBy w4 none) := gb_trans G3.out hg
            have HV : Hid (VEo w4 a' n S C) := hv
            clear hv hg
            go_wp2_with fail
            refine (newWalk30 a' n c' S C _ HV.out).mono ?_
            rintro e w5 ⟨pb, rfl, hpb, hk, hg⟩
            have hpb2 : w1.heap.size ≤ pb := Nat.le_trans G4.out.size hpb
            have I5 : Hid (WI w1 pb a' n c' S C w5) := ⟨gb_trans G4.out hg, 0, hk⟩
            clear hk hg
            go_wp2_with fail
            go_loopw [6] (fun i wr => ∃ j : Nat, j ≤ l ∧ i = .int .i64 j ∧ Hid (WI w1 pb a' n c' S C wr)) (fun i _ => l - (intOf i).toNat)
            case atStart => exact ⟨0, Nat.zero_le _, rfl, I5.out⟩
            case round =>
              obtain ⟨j, hj, rfl, I⟩ := hrel
              by_cases hlt : j < l
              · obtain ⟨aq, rfl, h1⟩ := HQ.out j hlt
                obtain ⟨c, hc⟩ := reads_exists n S C (Q j)
                have hi' : (j : Int) < (l : Int) := by omega
                have g1 : ∀ p : InvW (WI w1 pb a' n c' S C), p.W.cell? (aq.add j) = some (.string (Q j)) := fun p => p.ok.1.cell h1 (by simp)
                have HC : Hid (∀ p : InvW (WI w1 pb a' n c' S C), Calls Try.prog 31 #[.pointer (some ⟨pb, 0, none⟩), .string (Q j)] p.W fun e w' => e = .returned (.int .u64 c) ∧ ∃ p : InvW (WI w1 pb a' n c' S C), w' = p.W) :=
                  fun p => (p.ok.get hpb2 (by omega) HA.out hc).mono fun e w' ⟨he, hw⟩ => ⟨he, ⟨w', hw⟩, rfl⟩
                have HL : Hid (∀ p : InvW (WI w1 pb a' n c' S C), Calls Try.prog 16 #[.slice a n cap, .string (Q j)] p.W fun e w' => e = .returned (.int .u64 c) ∧ ∃ p : InvW (WI w1 pb a' n c' S C), w' = p.W) :=
                  fun p => (lookup_any a n cap S C (Q j) (by omega) p.W (HS.out.new p.ok.1)).mono fun e w' ⟨d, he, hd, hw⟩ => ⟨by rw [he, Reads.one HA.out hc hd], p, hw⟩
                clear hc h1
                have hne : Nonempty (InvW (WI w1 pb a' n c' S C)) := ⟨⟨_, I.out⟩⟩
                go_wp2_with fail
                refine wp_region_inv (WI w1 pb a' n c' S C) (by kernel_rfl) (by kernel_rfl) ⟨gb_drew I.out.1, I.out.2.elim fun k hk => ⟨k, hk.new (gb_drew (gb_refl _ _))⟩⟩ ?_
                repeat (first | go_big_quiet_step ((first | (go_at_call 31; exact HC.out _) | (go_at_call 16; exact HL.out _))) | quiet_step ((first | (go_at_call 31; exact HC.out _) | (go_at_call 16; exact HL.out _))))
                refine wpQuiet_nil ?_
                intro _ hw'
                obtain ⟨p, hw''⟩ := hw'
                have I2 : Hid (WI w1 pb a' n c' S C p.W) := p.ok
                subst hw''
                go_wp2
                go_roundw
                case rel => exact ⟨j + 1, by omega, by go_num, I2.out⟩
                case measure => simp [intOf]; omega
              · go_wp2
                go_ret
                exact ⟨rfl, gb_below I.out.1⟩
    · have d2 : decide ((4096 : Int) < (l : Int)) = true := by simp; omega
      go_enter Try.func7, Try.ntmps7
      go_wp2_with fail
      refine (bytes29 a q n cap l lc S Q C hn' hl' _ HS.out HQ.out).mono ?_
      rintro e w1 ⟨⟨b, rfl⟩, rfl⟩
      cases b
      all_goals
        go_wp2
        go_ret
        exact ⟨rfl, Below.refl _ _⟩
  · have d2 : decide ((4096 : Int) < (n : Int)) = true := by simp; omega
    go_enter Try.func7, Try.ntmps7
    go_wp2_with fail
    refine (bytes29 a q n cap l lc S Q C hn' hl' _ HS.out HQ.out).mono ?_
    rintro e w1 ⟨⟨b, rfl⟩, rfl⟩
    cases b
    all_goals
      go_wp2
      go_ret
      exact ⟨rfl, Below.refl _ _⟩
end Go.Proofs.Qxb6613110a
