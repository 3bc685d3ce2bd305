/- following, get, ZZwalkGet, walk, ZZnewWalk. -/
import Derived.Test.Qxb6613110aFind2
namespace Go.Proofs.Qxb6613110a
open Go.RowKit Go.Sort Go.Shelf
set_option linter.unusedVariables false

/-- following: where the next entry bears m it is taken -/
theorem foll43 (pb : Nat) (a : Option Addr) (n cap k : Nat) (S : Nat → ByteArray) (C : Nat → Int) (m : ByteArray) (hn : n ≤ 1048576) (w : World) (hK : WK w pb 0 a n cap k S C) :
    Calls Try.prog 43 #[.pointer (some ⟨pb, 0, none⟩), .string m] w fun e w' => ∃ (c : Int) (b : Bool) (k' : Nat), e = .returned (.tuple #[.int .u64 c, .bool b]) ∧ (b = true → ∃ i, i < n ∧ S i = m ∧ c = C i) ∧ WK w' pb 0 a n cap k' S C ∧ w.grownBy w' (some pb) := by
  have HK : Hid (WK w pb 0 a n cap k S C) := hK
  have hkn := hK.le
  have c1 := hK.s
  have c2 := hK.next
  have c3 := hK.free
  rw [Nat.zero_add] at c2 c3
  clear hK
  by_cases hlt : k < n
  · obtain ⟨ad, rfl, d1, d2⟩ := HK.out.row k hlt
    have hi' : (k : Int) < (n : Int) := by omega
    cases hb : ((S k).toList == m.toList)
    · have HB : Hid (((S k).toList == m.toList) = false) := hb
      go_enter Try.func43, Try.ntmps43
      go_wp2
      go_ret2
      exact ⟨0, false, k, rfl, (fun h => by cases h), HK.out, gb_refl _ _⟩
    · have HB : Hid (((S k).toList == m.toList) = true) := hb
      have hne : ad.block ≠ pb := HK.out.apart (by omega) ad rfl
      have eb : (ad.add (k * 2)).block = ad.block := by unfold Addr.add; split <;> rfl
      have d3 : ∀ v, (w.setCell ⟨pb, 1, none⟩ v).cell? ⟨(ad.add (k * 2)).block, (ad.add (k * 2)).off + 1, none⟩ = some (.int .u64 (C k)) := fun v => by
        rw [World.cell?_setCell_other _ _ _ _ (fun e => hne (by rw [← eb]; exact (congrArg Addr.block e).symm))]; exact d2
      have d4 : ∀ v, (w.setCell ⟨pb, 1, none⟩ v).cell? ⟨pb, 0, none⟩ = some (.slice (some ad) n cap) := fun v => by
        rw [World.cell?_setCell_other _ _ _ _ (by simp)]; exact c1
      clear hne eb
      go_enter Try.func43, Try.ntmps43
      go_wp2
      go_ret2
      exact ⟨C k, true, k + 1, rfl, fun _ => ⟨k, hlt, toList_inj (beq_iff_eq.1 HB.out), rfl⟩, HK.out.set (k + 1) hlt, gb_setCell (gb_refl _ _) (.inr rfl) _⟩
  · have hd : decide ((k : Int) < (n : Int)) = false := by simp; omega
    go_enter Try.func43, Try.ntmps43
    go_wp2
    go_ret2
    exact ⟨0, false, k, rfl, (fun h => by cases h), HK.out, gb_refl _ _⟩

/-- what get leaves -/
def GetPost (w : World) (pb : Nat) (m : ByteArray) (a : Option Addr) (n cap : Nat) (S : Nat → ByteArray) (C : Nat → Int) (e : Ending) (w' : World) : Prop :=
  ∃ (c : Int) (k' : Nat), e = .returned (.int .u64 c) ∧ Reads n S C m c ∧ WK w' pb 0 a n cap k' S C ∧ w.grownBy w' (some pb)

theorem get38 (pb : Nat) (a : Option Addr) (n cap k : Nat) (S : Nat → ByteArray) (C : Nat → Int) (m : ByteArray) (hn : n ≤ 1048576) (hA : Asc n S) (w : World) (hK : WK w pb 0 a n cap k S C) :
    Calls Try.prog 38 #[.pointer (some ⟨pb, 0, none⟩), .string m] w (GetPost w pb m a n cap S C) := by
  have HK : Hid (WK w pb 0 a n cap k S C) := hK
  have HA : Hid (Asc n S) := hA
  clear hK hA
  go_enter Try.func38, Try.ntmps38
  go_wp2_with fail
  refine (foll43 pb a n cap k S C m hn _ HK.out).mono ?_
  rintro e w1 ⟨c, b, k1, rfl, hb, hK1, hg1⟩
  have H1 : Hid (WK w1 pb 0 a n cap k1 S C) := hK1
  have G1 : Hid (w.grownBy w1 (some pb)) := hg1
  have HB : Hid (b = true → ∃ i, i < n ∧ S i = m ∧ c = C i) := hb
  clear hb hK1 hg1
  cases b with
  | true =>
    have HB1 : Hid (∃ i, i < n ∧ S i = m ∧ c = C i) := HB.out rfl
    clear HB
    go_wp2
    go_ret
    exact ⟨c, k1, rfl, .inl HB1.out, H1.out, G1.out⟩
  | false =>
    clear HB
    go_wp2_with fail
    refine (find44 pb 0 a n cap k1 S C m hn HA.out _ H1.out).mono ?_
    rintro e w2 ⟨i, b, k2, rfl, hf, hK2, hg2⟩
    have H2 : Hid (WK w2 pb 0 a n cap k2 S C) := hK2
    have G2 : Hid (w.grownBy w2 (some pb)) := gb_trans G1.out hg2
    have HF : Hid (Found n S m i b) := hf
    clear hf hK2 hg2 H1 G1
    cases b with
    | true =>
      have HB1 : Hid (i < n ∧ S i = m) := HF.out.2.1 rfl
      have hlt : i < n := HB1.out.1
      obtain ⟨ad, rfl, d1, d2⟩ := H2.out.row i hlt
      have hi' : (i : Int) < (n : Int) := by omega
      have c1 := H2.out.s
      clear HF
      go_wp2
      go_ret
      exact ⟨C i, k2, rfl, .inl ⟨i, hlt, HB1.out.2, rfl⟩, H2.out, G2.out⟩
    | false =>
      have HB1 : Hid (∀ j, j < n → S j ≠ m) := HF.out.2.2 rfl
      clear HF
      go_wp2
      go_ret
      exact ⟨0, k2, rfl, .inr ⟨HB1.out, rfl⟩, H2.out, G2.out⟩

theorem walkGet31 (pb : Nat) (a : Option Addr) (n cap k : Nat) (S : Nat → ByteArray) (C : Nat → Int) (m : ByteArray) (hn : n ≤ 1048576) (hA : Asc n S) (w : World) (hK : WK w pb 0 a n cap k S C) :
    Calls Try.prog 31 #[.pointer (some ⟨pb, 0, none⟩), .string m] w (GetPost w pb m a n cap S C) := by
  have HK : Hid (WK w pb 0 a n cap k S C) := hK
  have HA : Hid (Asc n S) := hA
  clear hK hA
  go_enter Try.func31, Try.ntmps31
  go_wp2_with fail
  refine (get38 pb a n cap k S C m hn HA.out _ HK.out).mono ?_
  rintro e w1 ⟨c, k1, rfl, hb, hK1, hg1⟩
  have H1 : Hid (WK w1 pb 0 a n cap k1 S C) := hK1
  have G1 : Hid (w.grownBy w1 (some pb)) := hg1
  have HB : Hid (Reads n S C m c) := hb
  clear hb hK1 hg1
  go_wp2
  go_ret
  exact ⟨c, k1, rfl, HB.out, H1.out, G1.out⟩

theorem walk37 (a : Option Addr) (n cap : Nat) (w : World) :
    Calls Try.prog 37 #[.slice a n cap] w fun e w' => e = .returned (.agg #[.slice a n cap, .int .i64 0]) ∧ w' = w.alloc (.cells #[.slice a n cap, .int .i64 0] 84) := by
  go_enter Try.func37, Try.ntmps37
  go_wp2
  exact bodyPost_ret (v := .agg #[.slice a n cap, .int .i64 0]) (by simp [results, Try.results37, go_sem]) rfl ⟨rfl, rfl⟩

theorem newWalk30 (a : Option Addr) (n cap : Nat) (S : Nat → ByteArray) (C : Nat → Int) (w : World) (hS : VEo w a n S C) :
    Calls Try.prog 30 #[.slice a n cap] w fun e w' => ∃ pb, e = .returned (.pointer (some ⟨pb, 0, none⟩)) ∧ w.heap.size ≤ pb ∧ WK w' pb 0 a n cap 0 S C ∧ w.grownBy w' none := by
  have HS : Hid (VEo w a n S C) := hS
  clear hS
  go_enter Try.func30, Try.ntmps30
  go_wp2_with fail
  refine (walk37 a n cap _).mono ?_
  rintro e w1 ⟨rfl, rfl⟩
  go_wp2
  go_ret
  refine ⟨w.heap.size + 1, rfl, by omega, ⟨?_, ?_, ?_, HS.out.new (gb_alloc (gb_alloc (gb_refl _ _) _) _), fun hp ad e => ?_, Nat.zero_le _⟩, gb_alloc (gb_alloc (gb_refl _ _) _) _⟩
  · rw [World.cell?_alloc_at _ _ _ _ (by simp)]; rfl
  · rw [World.cell?_alloc_at _ _ _ _ (by simp)]; rfl
  · simp
  · obtain ⟨ad', e', h1, _⟩ := HS.out 0 hp
    obtain rfl : ad = ad' := Option.some.inj (e.symm.trans e')
    have hlt := World.block_lt_of_cell? _ _ h1
    have eb : (ad.add (0 * 2)).block = ad.block := by unfold Addr.add; split <;> rfl
    rw [eb] at hlt
    omega
end Go.Proofs.Qxb6613110a
