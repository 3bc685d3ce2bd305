/- FnWalkGetSeesOneEntryPutIn: the walk. -/
import Derived.Test.Qxb6613110aLaw7
import Derived.Test.Qxb6613110aPut
namespace Go.Proofs.Qxb6613110a
open Go.RowKit Go.Sort Go.Shelf
set_option linter.unusedVariables false

theorem buildVec_new (a : Option Addr) (n cap : Nat) (S : Nat → ByteArray) (C : Nat → Int) (hn : n ≤ 1048576) (h0 : a = none → n = 0) (w : World) (hS : VEo w a n S C) :
    Calls Try.prog 14 #[.slice a n cap] w fun e w' => ∃ a' c', e = .returned (.slice a' n c') ∧ VEo w' a' n S C ∧ w.grownBy w' none ∧ ∀ ad, a' = some ad → w.heap.size ≤ ad.block := by
  cases a with
  | none =>
    obtain rfl := h0 rfl
    exact (buildVec_nil cap w).mono fun e w' ⟨he, hw⟩ => ⟨none, 0, he, fun i hi => absurd hi (by omega), by rw [hw]; exact gb_refl _ _, (fun ad h => by cases h)⟩
  | some ad => exact (buildVec_some ad n cap S C hn w hS).mono fun e w' ⟨he, hv, hw⟩ => ⟨_, _, he, hv, hw, fun ad h => by obtain rfl := Option.some.inj h; exact Nat.le_refl _⟩

theorem WK.other {w w' : World} {pb pc : Nat} {a : Option Addr} {n cap k : Nat} {S : Nat → ByteArray} {C : Nat → Int} (h : WK w pb 0 a n cap k S C) (g : w.grownBy w' (some pc)) (h1 : pb ≠ pc) (h2 : 0 < n → ∀ ad, a = some ad → ad.block ≠ pc) : WK w' pb 0 a n cap k S C :=
  ⟨g.cell h.s (by simpa using h1), g.cell h.next (by simpa using h1), (World.frozen?_of_block (g.block pb (World.block_lt_of_cell? _ _ h.next) (by simpa using h1))).trans h.free, h.row.grown g (fun hp ad e he => h2 hp ad e (Option.some.inj he)), h.apart, h.le⟩

/-- how many entries have been taken over behind j rounds -/
def cnt (k j : Nat) : Nat := if j ≤ k then j else j - 1
/-- the cells of the first c entries -/
def flat (S : Nat → ByteArray) (C : Nat → Int) : Nat → List Value
  | 0 => []
  | c + 1 => flat S C c ++ [.string (S c), .int .u64 (C c)]
theorem flat_len (S : Nat → ByteArray) (C : Nat → Int) : ∀ c, (flat S C c).length = c * 2
  | 0 => rfl
  | c + 1 => by simp [flat, flat_len S C c]; omega
theorem flat_at (S : Nat → ByteArray) (C : Nat → Int) : ∀ c i, i < c → (flat S C c)[i * 2]? = some (.string (S i)) ∧ (flat S C c)[i * 2 + 1]? = some (.int .u64 (C i))
  | 0, i, h => absurd h (by omega)
  | c + 1, i, h => by
    have hl := flat_len S C c
    by_cases e : i = c
    · subst e
      refine ⟨?_, ?_⟩
      · rw [flat, List.getElem?_append_right (by omega), hl]; simp
      · rw [flat, List.getElem?_append_right (by omega), hl]; simp
    · have := flat_at S C c i (by omega)
      refine ⟨?_, ?_⟩
      · rw [flat, List.getElem?_append_left (by omega)]; exact this.1
      · rw [flat, List.getElem?_append_left (by omega)]; exact this.2

theorem VEo_of_owns {w : World} {B n cap : Nat} {S : Nat → ByteArray} {C : Nat → Int} (h : w.ownsRow B 63 2 (.slice (some ⟨B, 0, none⟩) n cap) n (flat S C n)) : VEo w (some ⟨B, 0, none⟩) n S C := by
  intro i hi
  have hc := h.cells (g := B) rfl
  have := flat_at S C n i hi
  refine ⟨_, rfl, hc _ _ this.1, ?_⟩
  have h2 := hc _ _ this.2
  rw [add_new] at h2 ⊢
  exact h2

theorem cnt_same {k : Nat} : cnt k (k + 1) = cnt k k := by unfold cnt; rw [if_neg (by omega), if_pos (by omega)]; omega
theorem cnt_step {k j : Nat} (h : j ≠ k) : cnt k (j + 1) = cnt k j + 1 := by
  unfold cnt
  by_cases e : j ≤ k
  · rw [if_pos (by omega), if_pos e]
  · rw [if_neg (by omega), if_neg e]; omega
theorem cnt_lt {k j n : Nat} (h : j ≠ k) (hj : j < n) (hk : k < n) : cnt k j + 1 ≤ n - 1 := by unfold cnt; split <;> omega
theorem cut_cnt {α : Type} {k j : Nat} (S : Nat → α) (h : j ≠ k) : cutS k S (cnt k j) = S j := by
  unfold cutS cnt
  by_cases e : j ≤ k
  · rw [if_pos e, if_pos (by omega)]
  · rw [if_neg e, if_neg (by omega), show j - 1 + 1 = j by omega]

theorem cells_new2 (w : World) (u v : Value) (t : TypeId) : ∀ j x, [u, v][j]? = some x → (w.alloc (.cells #[u, v] t)).cell? ((⟨w.heap.size, 0, none⟩ : Addr).add j) = some x := by
  intro j x hx
  rw [add_new]
  match j, hx with
  | 0, hx => rw [World.cell?_alloc_at _ _ _ _ (by simp)]; simpa using hx
  | 1, hx => rw [World.cell?_alloc_at _ _ _ _ (by simp)]; simpa using hx

/-- the two walks, in a world behind w: over the row, and over the row without its k-th entry -/
def TwoW (w : World) (p1 p2 : Nat) (a1 a2 : Option Addr) (n c1 c2 k : Nat) (S : Nat → ByteArray) (C : Nat → Int) (W : World) : Prop :=
  w.grownBy W none ∧ (∃ k1, WK W p1 0 a1 n c1 k1 S C) ∧ ∃ k2, WK W p2 0 a2 (n - 1) c2 k2 (cutS k S) (cutS k C)

theorem TwoW.get1 {w : World} {p1 p2 : Nat} {a1 a2 : Option Addr} {n c1 c2 k : Nat} {S : Nat → ByteArray} {C : Nat → Int} {W : World} (h : TwoW w p1 p2 a1 a2 n c1 c2 k S C W) (hn : n ≤ 1048576) (hA : Asc n S) (h1 : w.heap.size ≤ p1) (h12 : p1 < p2) (hB : 0 < n - 1 → ∀ ad, a2 = some ad → ad.block ≠ p1) (m : ByteArray) :
    Calls Try.prog 31 #[.pointer (some ⟨p1, 0, none⟩), .string m] W fun e w' => ∃ c, e = .returned (.int .u64 c) ∧ Reads n S C m c ∧ TwoW w p1 p2 a1 a2 n c1 c2 k S C w' := by
  obtain ⟨hg, ⟨k1, hK1⟩, ⟨k2, hK2⟩⟩ := h
  refine (walkGet31 p1 a1 n c1 k1 S C m hn hA W hK1).mono ?_
  rintro e w' ⟨c, k', rfl, hc, hK', hg'⟩
  exact ⟨c, rfl, hc, gb_later hg hg' h1, ⟨k', hK'⟩, ⟨k2, hK2.other hg' (by omega) hB⟩⟩

theorem TwoW.get2 {w : World} {p1 p2 : Nat} {a1 a2 : Option Addr} {n c1 c2 k : Nat} {S : Nat → ByteArray} {C : Nat → Int} {W : World} (h : TwoW w p1 p2 a1 a2 n c1 c2 k S C W) (hn : n ≤ 1048576) (hA : Asc (n - 1) (cutS k S)) (h2 : w.heap.size ≤ p2) (h12 : p1 < p2) (hB : 0 < n → ∀ ad, a1 = some ad → ad.block ≠ p2) (m : ByteArray) :
    Calls Try.prog 31 #[.pointer (some ⟨p2, 0, none⟩), .string m] W fun e w' => ∃ c, e = .returned (.int .u64 c) ∧ Reads (n - 1) (cutS k S) (cutS k C) m c ∧ TwoW w p1 p2 a1 a2 n c1 c2 k S C w' := by
  obtain ⟨hg, ⟨k1, hK1⟩, ⟨k2, hK2⟩⟩ := h
  refine (walkGet31 p2 a2 (n - 1) c2 k2 (cutS k S) (cutS k C) m (by omega) hA W hK2).mono ?_
  rintro e w' ⟨c, k', rfl, hc, hK', hg'⟩
  exact ⟨c, rfl, hc, gb_later hg hg' h2, ⟨k1, hK1.other hg' (by omega) hB⟩, ⟨k', hK'⟩⟩

theorem Try.info63 : (Try.prog.info? 63).map (fun i => (i.zero, i.size, i.bytes)) = some (some (.agg #[.string ⟨#[]⟩, .int .u64 0]), 2, 24) := by kernel_rfl

set_option maxHeartbeats 2000000 in
set_option maxRecDepth 100000 in
theorem law8 (a q : Option Addr) (n cap l lc : Nat) (x : Int) (S Q : Nat → ByteArray) (C : Nat → Int) (hn : n ≤ maxLen) (hl : l ≤ maxLen) (h0 : a = none → n = 0) (w : World) (hS : VEo w a n S C) (hQ : StrO w q l Q) :
    Calls Try.prog 8 #[.slice a n cap, .int .i64 x, .slice q l lc] w fun e w' => e = .returned (.bool true) ∧ Below w.heap.size w w' := by
  have HS : Hid (VEo w a n S C) := hS
  have HQ : Hid (StrO w q l Q) := hQ
  have HN : Hid (a = none → n = 0) := h0
  have hn' := hn
  have hl' := hl
  unfold maxLen at hn hl
  clear hS hQ h0
  by_cases hn2 : n ≤ 4096
  · by_cases hl2 : l ≤ 4096
    · have d1 : decide ((4096 : Int) < (n : Int)) = false := by simp; omega
      have d2 : decide ((4096 : Int) < (l : Int)) = false := by simp; omega
      by_cases hx : 0 ≤ x ∧ x < n
      · obtain ⟨hx0, hx1⟩ := hx
        obtain ⟨k, rfl⟩ := Int.eq_ofNat_of_zero_le hx0
        have hk : k < n := by omega
        have d3 : decide ((k : Int) < 0) = false := by simp
        have d4 : decide ((n : Int) ≤ (k : Int)) = false := by simp; omega
        obtain ⟨i0, hi, hz0, hz1, hz2⟩ := info_parts Try.info63
        go_enter Try.func8, Try.ntmps8
        go_wp2_with fail
        refine (bytes32 a q n cap l lc k S Q C hn' hl' _ HS.out HQ.out).mono ?_
        rintro e w1 ⟨⟨b, rfl⟩, rfl⟩
        cases b with
        | false =>
          go_wp2
          go_ret
          exact ⟨rfl, Below.refl _ _⟩
        | true =>
          go_wp2_with fail
          refine (sizeOK_any none a none q 0 0 n cap 0 0 l lc (fun _ => ⟨⟨#[]⟩, ⟨#[]⟩, 0, false, 0, 0⟩) S S Q C C (by omega) (by omega) (by omega) (by omega) _ (fun i hi => absurd hi (by omega)) HS.out (fun i hi => absurd hi (by omega)) HQ.out).mono ?_
          rintro e w2 ⟨⟨b, rfl⟩, y, rfl⟩
          cases b with
          | false =>
            go_wp2
            go_ret
            exact ⟨rfl, gb_below (gb_drewN (gb_refl _ _) _)⟩
          | true =>
            have G2 : Hid (w1.grownBy (w1.drewN y) none) := gb_drewN (gb_refl _ _) _
            generalize w1.drewN y = w2 at G2 ⊢
            go_wp2_with fail
            refine (vecOK_any a n cap S C (by omega) _ (HS.out.new G2.out)).mono ?_
            rintro e w3 ⟨b, rfl, hb, y, rfl⟩
            have G3 : Hid (w1.grownBy (w2.drewN y) none) := gb_drewN G2.out _
            have HB : Hid (b = true → Asc n S) := hb
            clear hb
            generalize w2.drewN y = w3 at G3 ⊢
            cases b with
            | false =>
              go_wp2
              go_ret
              exact ⟨rfl, gb_below G3.out⟩
            | true =>
              have HA : Hid (Asc n S) := HB.out rfl
              clear HB
              go_wp2_with (at_make; refine wpList_make_own _ rfl _ _ 23 rfl w3.heap.size 63 i0 _ 2 Try.underlying23 hi hz0 hz1 _ _ _ (n - 1) rfl rfl (by omega) (by rw [hz2]; omega) (by unfold maxLen; omega) (Nat.le_refl _) ?_; intro w4 hown hgrow)
              have O4 : Hid (w4.ownsRow w3.heap.size 63 2 (.slice (some ⟨w3.heap.size, 0, none⟩) 0 (n - 1)) 0 []) := hown
              have G4 : Hid (w1.grownBy w4 none) := gb_trans G3.out hgrow
              have hB : w1.heap.size ≤ w3.heap.size := G3.out.size
              clear hown hgrow
              go_loopw [7, 8] (fun v' i wr => ∃ j : Nat, j ≤ n ∧ i = .int .i64 j ∧ v' = .slice (some ⟨w3.heap.size, 0, none⟩) (cnt k j) (n - 1) ∧ Hid (wr.ownsRow w3.heap.size 63 2 (.slice (some ⟨w3.heap.size, 0, none⟩) (cnt k j) (n - 1)) (cnt k j) (flat (cutS k S) (cutS k C) (cnt k j)) ∧ w1.grownBy wr none)) (fun _ i _ => n - (intOf i).toNat)
              case atStart => exact ⟨0, Nat.zero_le _, rfl, by rfl, O4.out, G4.out⟩
              case round =>
                obtain ⟨j, hj, rfl, rfl, H⟩ := hrel
                by_cases hlt : j < n
                · by_cases hjk : j = k
                  · subst hjk
                    have hne : ((j : Int) != (j : Int)) = false := by simp
                    go_wp2
                    go_roundw
                    case rel => exact ⟨j + 1, by omega, by go_num, by rw [cnt_same], by rw [cnt_same]; exact H.out⟩
                    case measure => simp [intOf]; omega
                  · have hne : ((j : Int) != (k : Int)) = true := by rw [bne_iff_ne]; omega
                    obtain ⟨ad, rfl, e1, e2⟩ := HS.out j hlt
                    have g1 := H.out.2.cell e1 (by simp)
                    have g2 := H.out.2.cell e2 (by simp)
                    clear e1 e2
                    have hc1 := cnt_lt hjk hlt hk
                    go_wp2_with (at_builtin; refine wpList_append_fits _ rfl _ _ 23 rfl w3.heap.size 63 i0 2 Try.underlying23 hi hz1 w3.heap.size (cnt k j) (n - 1) _ rfl (H.out.1.alloc _) ⟨wr.heap.size, 0, none⟩ 1 1 [.string (S j), .int .u64 (C j)] rfl rfl (cells_new2 _ _ _ _) (by simp [Value.oneCell']) hc1 ?_; intro w5 hown5 hgrow5)
                    have O5 : Hid (w5.ownsRow w3.heap.size 63 2 (.slice (some ⟨w3.heap.size, 0, none⟩) (cnt k (j + 1)) (n - 1)) (cnt k (j + 1)) (flat (cutS k S) (cutS k C) (cnt k (j + 1)))) := by
                      rw [cnt_step hjk, flat, cut_cnt S hjk, cut_cnt C hjk]; exact hown5
                    have G5 : Hid (w1.grownBy w5 none) := gb_later (gb_alloc H.out.2 _) hgrow5 hB
                    clear hown5 hgrow5 g1 g2
                    go_wp2
                    go_roundw
                    case rel => exact ⟨j + 1, by omega, by go_num, by rw [cnt_step hjk], O5.out, G5.out⟩
                    case measure => simp [intOf]; omega
                · obtain rfl : j = n := by omega
                  have ecn : cnt k j = j - 1 := by unfold cnt; rw [if_neg (by omega)]
                  rw [ecn] at H
                  have V5 : Hid (VEo wr (some ⟨w3.heap.size, 0, none⟩) (j - 1) (cutS k S) (cutS k C)) := VEo_of_owns H.out.1
                  have G5 : Hid (w1.grownBy wr none) := H.out.2
                  have HA2 : Hid (Asc (j - 1) (cutS k S)) := cut_asc HA.out hk
                  rw [ecn]
                  clear H O4 G4 ecn
                  obtain ⟨w5, rfl⟩ : ∃ w5 : World, w5 = wr := ⟨_, rfl⟩
                  go_wp2_with fail
                  refine (buildVec_new a j cap S C (by omega) HN.out _ (HS.out.new G5.out)).mono ?_
                  rintro e w6 ⟨a1, c1, rfl, hv1, hg1, hb1⟩
                  have V6 : Hid (VEo w6 a1 j S C) := hv1
                  have G6 : Hid (w5.grownBy w6 none) := hg1
                  clear hv1 hg1 hb1
                  go_wp2_with fail
                  refine (newWalk30 a1 j c1 S C _ V6.out).mono ?_
                  rintro e w7 ⟨p1, rfl, hp1, hk1, hg1⟩
                  have K7 : Hid (WK w7 p1 0 a1 j c1 0 S C) := hk1
                  have G7 : Hid (w5.grownBy w7 none) := gb_trans G6.out hg1
                  have hp1' : w5.heap.size ≤ p1 := Nat.le_trans G6.out.size hp1
                  clear hk1 hg1 V6 G6
                  go_wp2_with fail
                  refine (buildVec_new (some ⟨w3.heap.size, 0, none⟩) (j - 1) (j - 1) (cutS k S) (cutS k C) (by omega) (by simp) _ (V5.out.new G7.out)).mono ?_
                  rintro e w8 ⟨a2, c2, rfl, hv2, hg2, hb2⟩
                  have V8 : Hid (VEo w8 a2 (j - 1) (cutS k S) (cutS k C)) := hv2
                  have G8 : Hid (w7.grownBy w8 none) := hg2
                  have B8 : Hid (∀ ad, a2 = some ad → w7.heap.size ≤ ad.block) := hb2
                  clear hv2 hg2 hb2
                  go_wp2_with fail
                  refine (newWalk30 a2 (j - 1) c2 (cutS k S) (cutS k C) _ V8.out).mono ?_
                  rintro e w9 ⟨p2, rfl, hp2, hk2, hg2⟩
                  have hlt1 : p1 < p2 := Nat.lt_of_lt_of_le (World.block_lt_of_cell? _ _ K7.out.s) (Nat.le_trans G8.out.size hp2)
                  have A1 : Hid (0 < j → ∀ ad, a1 = some ad → ad.block ≠ p2) := fun hp ad e => by
                    obtain ⟨ad', e', h1, _⟩ := K7.out.row 0 hp
                    obtain rfl : ad = ad' := Option.some.inj (e.symm.trans e')
                    have hb := World.block_lt_of_cell? _ _ h1
                    have eb : (ad.add (0 * 2)).block = ad.block := by unfold Addr.add; split <;> rfl
                    rw [eb] at hb
                    have := G8.out.size
                    omega
                  have A2 : Hid (0 < j - 1 → ∀ ad, a2 = some ad → ad.block ≠ p1) := fun hp ad e => by
                    have h1 := B8.out ad e
                    have h2 := World.block_lt_of_cell? _ _ K7.out.s
                    simp at h2
                    omega
                  have hq1 : w1.heap.size ≤ p1 := Nat.le_trans G5.out.size hp1'
                  have hq2 : w1.heap.size ≤ p2 := by omega
                  have I9 : Hid (TwoW w1 p1 p2 a1 a2 j c1 c2 k S C w9) := ⟨gb_trans G5.out (gb_trans G7.out (gb_trans G8.out hg2)), ⟨0, K7.out.new (gb_trans G8.out hg2)⟩, ⟨0, hk2⟩⟩
                  clear hk2 hg2 V8 G8 B8 K7 G7 G5 V5 hp1 hp2 hp1'
                  obtain ⟨ad, rfl, e1, e2⟩ := HS.out k hk
                  have E1 : Hid _ := e1
                  have E2 : Hid _ := e2
                  have g1 := I9.out.1.cell e1 (by simp)
                  clear e1 e2
                  go_wp2_with fail
                  clear g1
                  go_loopw [12] (fun i wr => ∃ t : Nat, t ≤ l + 1 ∧ i = .int .i64 t ∧ Hid (TwoW w1 p1 p2 a1 a2 j c1 c2 k S C wr)) (fun i _ => l + 1 - (intOf i).toNat)
                  case atStart => exact ⟨0, Nat.zero_le _, rfl, I9.out⟩
                  case round =>
                    obtain ⟨t, ht, rfl, I⟩ := hrel
                    by_cases htl : t ≤ l
                    · by_cases htq : t < l
                      · obtain ⟨aq, rfl, h1⟩ := HQ.out t htq
                        have hi' : (t : Int) < (l : Int) := by omega
                        have g0 := I.out.1.cell h1 (by simp)
                        clear h1
                        generalize hm : Q t = m at g0
                        clear hm
                        go_wp2_with fail
                        refine (I.out.get1 (by omega) HA.out hq1 hlt1 A2.out _).mono ?_
                        rintro e w10 ⟨x1, rfl, r1, i1⟩
                        have R1 : Hid (Reads j S C m x1) := r1
                        have I1 : Hid (TwoW w1 p1 p2 a1 a2 j c1 c2 k S C w10) := i1
                        clear r1 i1
                        go_wp2_with fail
                        refine (I1.out.get2 (by omega) HA2.out hq2 hlt1 A1.out _).mono ?_
                        rintro e w11 ⟨x2, rfl, r2, i2⟩
                        have R2 : Hid (Reads (j - 1) (cutS k S) (cutS k C) m x2) := r2
                        have I2 : Hid (TwoW w1 p1 p2 a1 a2 j c1 c2 k S C w11) := i2
                        clear r2 i2 I1
                        have g1 := I2.out.1.cell E2.out (by simp)
                        by_cases em : m = S k
                        · subst em
                          obtain rfl : x1 = C k := reads_own HA.out hk R1.out
                          obtain rfl : x2 = 0 := reads_gone HA.out hk R2.out
                          have hb1 : ((S k).toList == (S k).toList) = true := by simp
                          have hb2 : (C k != C k) = false := by simp
                          go_wp2
                          go_roundw
                          case rel => exact ⟨t + 1, by omega, by go_num, I2.out⟩
                          case measure => simp [intOf]; omega
                        · have hb1 : (m.toList == (S k).toList) = false := by rw [beq_eq_false_iff_ne]; exact fun e => em (toList_inj e)
                          obtain rfl : x1 = x2 := reads_other HA.out hk em R1.out R2.out
                          have hb2 : (x1 != x1) = false := by simp
                          go_wp2
                          go_roundw
                          case rel => exact ⟨t + 1, by omega, by go_num, I2.out⟩
                          case measure => simp [intOf]; omega
                      · have hd : decide ((t : Int) < (l : Int)) = false := by simp; omega
                        go_wp2_with fail
                        refine (I.out.get1 (by omega) HA.out hq1 hlt1 A2.out _).mono ?_
                        rintro e w10 ⟨x1, rfl, r1, i1⟩
                        have R1 : Hid (Reads j S C (S k) x1) := r1
                        have I1 : Hid (TwoW w1 p1 p2 a1 a2 j c1 c2 k S C w10) := i1
                        clear r1 i1
                        go_wp2_with fail
                        refine (I1.out.get2 (by omega) HA2.out hq2 hlt1 A1.out _).mono ?_
                        rintro e w11 ⟨x2, rfl, r2, i2⟩
                        have R2 : Hid (Reads (j - 1) (cutS k S) (cutS k C) (S k) x2) := r2
                        have I2 : Hid (TwoW w1 p1 p2 a1 a2 j c1 c2 k S C w11) := i2
                        clear r2 i2 I1
                        have g1 := I2.out.1.cell E2.out (by simp)
                        obtain rfl : x1 = C k := reads_own HA.out hk R1.out
                        obtain rfl : x2 = 0 := reads_gone HA.out hk R2.out
                        have hb1 : ((S k).toList == (S k).toList) = true := by simp
                        have hb2 : (C k != C k) = false := by simp
                        go_wp2
                        go_roundw
                        case rel => exact ⟨t + 1, by omega, by go_num, I2.out⟩
                        case measure => simp [intOf]; omega
                    · go_wp2
                      go_ret
                      exact ⟨rfl, gb_below I.out.1⟩
      · have hx' : x < 0 ∨ (n : Int) ≤ x := by omega
        go_enter Try.func8, Try.ntmps8
        go_wp2_with fail
        refine (bytes32 a q n cap l lc x S Q C hn' hl' _ HS.out HQ.out).mono ?_
        rintro e w1 ⟨⟨b, rfl⟩, rfl⟩
        cases b with
        | false =>
          go_wp2
          go_ret
          exact ⟨rfl, Below.refl _ _⟩
        | true =>
          go_wp2_with fail
          refine (sizeOK_any none a none q 0 0 n cap 0 0 l lc (fun _ => ⟨⟨#[]⟩, ⟨#[]⟩, 0, false, 0, 0⟩) S S Q C C (by omega) (by omega) (by omega) (by omega) _ (fun i hi => absurd hi (by omega)) HS.out (fun i hi => absurd hi (by omega)) HQ.out).mono ?_
          rintro e w2 ⟨⟨b, rfl⟩, y, rfl⟩
          cases b with
          | false =>
            go_wp2
            go_ret
            exact ⟨rfl, gb_below (gb_drewN (gb_refl _ _) _)⟩
          | true =>
            have G2 : Hid (w1.grownBy (w1.drewN y) none) := gb_drewN (gb_refl _ _) _
            generalize w1.drewN y = w2 at G2 ⊢
            go_wp2_with fail
            refine (vecOK_any a n cap S C (by omega) _ (HS.out.new G2.out)).mono ?_
            rintro e w3 ⟨b, rfl, hb, y, rfl⟩
            have G3 : Hid (w1.grownBy (w2.drewN y) none) := gb_drewN G2.out _
            clear hb
            generalize w2.drewN y = w3 at G3 ⊢
            cases b with
            | false =>
              go_wp2
              go_ret
              exact ⟨rfl, gb_below G3.out⟩
            | true =>
              rcases hx' with hx' | hx'
              · have d3 : decide (x < 0) = true := by simp; omega
                go_wp2
                go_ret
                exact ⟨rfl, gb_below G3.out⟩
              · have d3 : decide (x < 0) = false := by simp; omega
                have d4 : decide ((n : Int) ≤ x) = true := by simp; omega
                go_wp2
                go_ret
                exact ⟨rfl, gb_below G3.out⟩
    · have d2 : decide ((4096 : Int) < (l : Int)) = true := by simp; omega
      go_enter Try.func8, Try.ntmps8
      go_wp2_with fail
      refine (bytes32 a q n cap l lc x S Q C hn' hl' _ HS.out HQ.out).mono ?_
      rintro e w1 ⟨⟨b, rfl⟩, rfl⟩
      cases b
      all_goals
        go_wp2
        go_ret
        exact ⟨rfl, Below.refl _ _⟩
  · have d2 : decide ((4096 : Int) < (n : Int)) = true := by simp; omega
    go_enter Try.func8, Try.ntmps8
    go_wp2_with fail
    refine (bytes32 a q n cap l lc x S Q C hn' hl' _ HS.out HQ.out).mono ?_
    rintro e w1 ⟨⟨b, rfl⟩, rfl⟩
    cases b
    all_goals
      go_wp2
      go_ret
      exact ⟨rfl, Below.refl _ _⟩
end Go.Proofs.Qxb6613110a
