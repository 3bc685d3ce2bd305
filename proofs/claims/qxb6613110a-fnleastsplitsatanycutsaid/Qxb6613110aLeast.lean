/- least: the least clock over the counted members, and the first that has it. -/
import Derived.Test.Qxb6613110aBounds
import Derived.Test.Qxb6613110aLaw7
namespace Go.Proofs.Qxb6613110a
open Go.RowKit Go.Maps Go.Sort Go.Shelf
set_option linter.unusedVariables false

/-- behind i members: the least clock so far, and who has it -/
def leastTo (V : Nat → VW) (R : Nat → Int) : Nat → Int × ByteArray
  | 0 => (18446744073709551615, ⟨#[]⟩)
  | i + 1 => if countedB (V i) then (if (leastTo V R i).2.toList.isEmpty = true ∨ R i < (leastTo V R i).1 then (R i, (V i).id) else leastTo V R i) else leastTo V R i

theorem least_skip {V : Nat → VW} {R : Nat → Int} {i : Nat} (h : countedB (V i) = false) : leastTo V R (i + 1) = leastTo V R i := by simp [leastTo, h]
theorem least_take {V : Nat → VW} {R : Nat → Int} {i : Nat} (h : countedB (V i) = true) (h2 : (leastTo V R i).2.toList.isEmpty = true ∨ R i < (leastTo V R i).1) : leastTo V R (i + 1) = (R i, (V i).id) := by
  rw [leastTo, if_pos h, if_pos h2]
theorem least_keep {V : Nat → VW} {R : Nat → Int} {i : Nat} (h : countedB (V i) = true) (h2 : (leastTo V R i).2.toList.isEmpty = false) (h3 : ¬ R i < (leastTo V R i).1) : leastTo V R (i + 1) = leastTo V R i := by
  rw [leastTo, if_pos h, if_neg (by simp [h2]; omega)]

/-- a replica as the law builds it -/
structure RepO (w : World) (rb mb : Nat) (av : Option Addr) (nv cv : Nat) (V : Nat → VW) : Prop where
  view : w.cell? ⟨rb, 4, none⟩ = some (.slice av nv cv)
  gone : w.cell? ⟨rb, 10, none⟩ = some (.map (some mb))
  row : PVo w av nv V
  map : MapO w mb nv V
theorem RepO.new {w w' : World} {rb mb : Nat} {av : Option Addr} {nv cv : Nat} {V : Nat → VW} (h : RepO w rb mb av nv cv V) (g : w.grownBy w' none) : RepO w' rb mb av nv cv V :=
  ⟨g.cell h.view (by simp), g.cell h.gone (by simp), h.row.new g, h.map.new g⟩

theorem walk_new {w1 : World} {a : Option Addr} {n cap : Nat} {S : Nat → ByteArray} {C : Nat → Int} (h : VEo w1 a n S C) : WK (w1.alloc (.cells #[.slice a n cap, .int .i64 0] 84)) w1.heap.size 0 a n cap 0 S C := by
  refine ⟨?_, ?_, by simp, h.new (World.grownBy_alloc _ _ none), fun hp ad e => ?_, Nat.zero_le _⟩
  · rw [World.cell?_alloc_at _ _ _ _ (by simp)]; rfl
  · rw [World.cell?_alloc_at _ _ _ _ (by simp)]; rfl
  · obtain ⟨ad', e', h1, _⟩ := h 0 hp
    obtain rfl : ad = ad' := Option.some.inj (e.symm.trans e')
    have hlt := World.block_lt_of_cell? _ _ h1
    have eb : (ad.add (0 * 2)).block = ad.block := by unfold Addr.add; split <;> rfl
    rw [eb] at hlt
    omega

set_option maxHeartbeats 2000000 in
set_option maxRecDepth 100000 in
theorem least39 (rb mb : Nat) (av : Option Addr) (nv cv : Nat) (V : Nat → VW) (a : Option Addr) (n cap : Nat) (S : Nat → ByteArray) (C : Nat → Int) (R : Nat → Int) (hn : n ≤ 1048576) (hnv : nv ≤ 1048576) (hA : Asc n S) (hF : ViewWf nv V)
    (hR : ∀ i, i < nv → Reads n S C (V i).id (R i)) (w : World) (hP : RepO w rb mb av nv cv V) (hS : VEo w a n S C) :
    Calls Try.prog 39 #[.pointer (some ⟨rb, 0, none⟩), .slice a n cap, .func (.func 40) #[.pointer (some ⟨rb, 0, none⟩)] #[]] w fun e w' => e = .returned (.tuple #[.int .u64 (leastTo V R nv).1, .string (leastTo V R nv).2]) ∧ w.grownBy w' none := by
  have HP : Hid (RepO w rb mb av nv cv V) := hP
  have HS : Hid (VEo w a n S C) := hS
  have HA : Hid (Asc n S) := hA
  have HF : Hid (ViewWf nv V) := hF
  have HR : Hid (∀ i, i < nv → Reads n S C (V i).id (R i)) := hR
  clear hP hS hA hF hR
  go_enter Try.func39, Try.ntmps39
  go_wp2_with fail
  refine (walk37 a n cap _).mono ?_
  rintro e w1 ⟨rfl, hw1⟩
  have G1 : Hid (w.grownBy w1 none) := by rw [hw1]; exact gb_alloc (gb_refl _ _) _
  clear hw1
  have c4 : ∀ o, (w1.alloc o).cell? ⟨rb, 4, none⟩ = some (.slice av nv cv) := fun o => (gb_alloc G1.out o).cell HP.out.view (by simp)
  have I0 : Hid (WI w w1.heap.size a n cap S C (w1.alloc (.cells #[.slice a n cap, .int .i64 0] 84))) := ⟨gb_alloc G1.out _, 0, walk_new (HS.out.new G1.out)⟩
  have hpb : w.heap.size ≤ w1.heap.size := G1.out.size
  go_wp2_with fail
  clear c4
  go_loopw [8, 9, 22] (fun s8 s9 s22 wr => ∃ i : Nat, i ≤ nv ∧ s22 = .int .i64 i ∧ s8 = .int .u64 (leastTo V R i).1 ∧ s9 = .string (leastTo V R i).2 ∧ Hid (WI w w1.heap.size a n cap S C wr)) (fun _ _ i _ => nv - (intOf i).toNat)
  case atStart => exact ⟨0, Nat.zero_le _, rfl, rfl, rfl, I0.out⟩
  case round =>
    obtain ⟨i, hiv, rfl, rfl, rfl, I⟩ := hrel
    by_cases hlt : i < nv
    · obtain ⟨ad, pb, rfl, e1, hE⟩ := HP.out.row i hlt
      have g1 := I.out.1.cell e1 (by simp)
      have hi' : (i : Int) < (nv : Int) := by omega
      have hE' : Hid (EntO w pb (V i)) := hE
      clear e1 hE
      go_wp2_with fail
      refine (bounds40 rb pb mb nv i V hlt HF.out _ (I.out.1.cell HP.out.gone (by simp)) (HP.out.map.new I.out.1) (hE'.out.new I.out.1)).mono ?_
      rintro e w2 ⟨rfl, q, rfl⟩
      have I2 : Hid (WI w w1.heap.size a n cap S C (wr.drewN q)) := ⟨gb_drewN I.out.1 _, I.out.2.elim fun k hk => ⟨k, hk.new (gb_drewN (gb_refl _ _) _)⟩⟩
      generalize wr.drewN q = w2 at I2 ⊢
      clear I g1
      cases hc : countedB (V i)
      · have HC : Hid (countedB (V i) = false) := hc
        clear hc
        go_wp2
        go_roundw
        case rel => exact ⟨i + 1, by omega, by go_num, by rw [least_skip HC.out], by rw [least_skip HC.out], I2.out⟩
        case measure => simp [intOf]; omega
      · have HC : Hid (countedB (V i) = true) := hc
        clear hc
        have g1 := (hE'.out.new I2.out.1).1
        go_wp2_with fail
        obtain ⟨k, hk⟩ := I2.out.2
        refine (foll43 w1.heap.size a n cap k S C (V i).id hn _ hk).mono ?_
        rintro e w3 ⟨c, b, k3, rfl, hb, hK3, hg3⟩
        clear hk g1
        have I3 : Hid (WI w w1.heap.size a n cap S C w3) := ⟨gb_later I2.out.1 hg3 hpb, k3, hK3⟩
        have HB : Hid (b = true → ∃ i', i' < n ∧ S i' = (V i).id ∧ c = C i') := hb
        clear hb hK3 hg3 I2
        go_upto_if 39 with fail
        go_cut [13] (fun s13 wx => s13 = .int .u64 (R i) ∧ Hid (WI w w1.heap.size a n cap S C wx))
        case first =>
          cases b with
          | true =>
            have HB1 : Hid (∃ i', i' < n ∧ S i' = (V i).id ∧ c = C i') := HB.out rfl
            clear HB
            go_wp2
            go_meet
            case rel => exact ⟨by rw [Reads.one HA.out (.inl HB1.out) (HR.out i hlt)], I3.out⟩
          | false =>
            clear HB
            have g1 := (hE'.out.new I3.out.1).1
            obtain ⟨k', hk'⟩ := I3.out.2
            go_wp2_with fail
            refine (get38 w1.heap.size a n cap k' S C (V i).id hn HA.out _ hk').mono ?_
            rintro e w4 ⟨c4, k4, rfl, hr4, hK4, hg4⟩
            clear hk' g1
            have I4 : Hid (WI w w1.heap.size a n cap S C w4) := ⟨gb_later I3.out.1 hg4 hpb, k4, hK4⟩
            have HR4 : Hid (c4 = R i) := Reads.one HA.out hr4 (HR.out i hlt)
            clear hr4 hK4 hg4
            go_wp2
            go_meet
            case rel => exact ⟨by rw [HR4.out], I4.out⟩
        case rest =>
          obtain ⟨rfl, I5⟩ := hcut
          clear I3 HB
          have g1 := (hE'.out.new I5.out.1).1
          cases he : (leastTo V R i).2.toList.isEmpty
          · have HE : Hid ((leastTo V R i).2.toList.isEmpty = false) := he
            by_cases hl : R i < (leastTo V R i).1
            · have HL : Hid (R i < (leastTo V R i).1) := hl
              have hd : decide (R i < (leastTo V R i).1) = true := by simpa using hl
              clear hl
              go_wp2_with fail
              go_quiet (fail)
              go_wp2
              go_roundw
              case rel => exact ⟨i + 1, by omega, by go_num, by rw [least_take HC.out (.inr HL.out)], by rw [least_take HC.out (.inr HL.out)], gb_drewN I5.out.1 _, I5.out.2.elim fun k hk => ⟨k, hk.new (gb_drewN (gb_refl _ _) _)⟩⟩
              case measure => simp [intOf]; omega
            · have HL : Hid (¬ R i < (leastTo V R i).1) := hl
              have hd : decide (R i < (leastTo V R i).1) = false := by simpa using hl
              clear hl
              go_wp2
              go_roundw
              case rel => exact ⟨i + 1, by omega, by go_num, by rw [least_keep HC.out HE.out HL.out], by rw [least_keep HC.out HE.out HL.out], I5.out⟩
              case measure => simp [intOf]; omega
          · have HE : Hid ((leastTo V R i).2.toList.isEmpty = true) := he
            go_wp2_with fail
            go_quiet (fail)
            go_wp2
            go_roundw
            case rel => exact ⟨i + 1, by omega, by go_num, by rw [least_take HC.out (.inl HE.out)], by rw [least_take HC.out (.inl HE.out)], gb_drewN I5.out.1 _, I5.out.2.elim fun k hk => ⟨k, hk.new (gb_drewN (gb_refl _ _) _)⟩⟩
            case measure => simp [intOf]; omega
    · obtain rfl : i = nv := by omega
      go_wp2
      go_ret2
      exact ⟨rfl, I.out.1⟩
end Go.Proofs.Qxb6613110a
