/- buildVec: a new row of entries, as the given one. -/
import Derived.Test.Qxb6613110aBase
import Derived.WalkSpells
import Derived.RegionTactic
import Derived.BigRegion
namespace Go.Proofs.Qxb6613110a
open Go.RowKit
theorem Try.info66 : (Try.prog.info? 66).map (fun i => (i.zero, i.size, i.bytes)) = some (some (.agg #[.string ⟨#[]⟩, .int .u64 0]), 2, 24) := by kernel_rfl

/-- one round of buildVec -/
theorem build_step {w wr : World} {n k : Nat} {f : Nat → Value} {S : Nat → ByteArray} {C : Nat → Int}
    (h : wr.rowIs w.heap.size 66 (n * 2) f ∧ (∀ j, j < k → f (j * 2) = .string (S j) ∧ f (j * 2 + 1) = .int .u64 (C j)) ∧ w.grownBy wr none) :
    ((wr.setCell ⟨w.heap.size, k * 2, none⟩ (.string (S k))).setCell ⟨w.heap.size, k * 2 + 1, none⟩ (.int .u64 (C k))).drew.rowIs w.heap.size 66 (n * 2) (fun j => if j = k * 2 + 1 then .int .u64 (C k) else if j = k * 2 then .string (S k) else f j) ∧
    (∀ j, j < k + 1 → (fun j => if j = k * 2 + 1 then Value.int .u64 (C k) else if j = k * 2 then .string (S k) else f j) (j * 2) = .string (S j) ∧ (fun j => if j = k * 2 + 1 then Value.int .u64 (C k) else if j = k * 2 then .string (S k) else f j) (j * 2 + 1) = .int .u64 (C j)) ∧
    w.grownBy ((wr.setCell ⟨w.heap.size, k * 2, none⟩ (.string (S k))).setCell ⟨w.heap.size, k * 2 + 1, none⟩ (.int .u64 (C k))).drew none := by
  obtain ⟨h1, h2, h3⟩ := h
  refine ⟨((h1.set (k * 2) _).set (k * 2 + 1) _).drew, fun j hj => ?_, gb_drew (gb_setCell (gb_setCell h3 (.inl (Nat.le_refl _)) _) (.inl (Nat.le_refl _)) _)⟩
  by_cases e : j = k
  · subst e
    refine ⟨?_, ?_⟩
    · show (if j * 2 = j * 2 + 1 then _ else if j * 2 = j * 2 then _ else _) = _
      rw [if_neg (by omega), if_pos rfl]
    · show (if j * 2 + 1 = j * 2 + 1 then _ else _) = _
      rw [if_pos rfl]
  · have := h2 j (by omega)
    refine ⟨?_, ?_⟩
    · show (if j * 2 = k * 2 + 1 then _ else if j * 2 = k * 2 then _ else _) = _
      rw [if_neg (by omega), if_neg (by omega)]; exact this.1
    · show (if j * 2 + 1 = k * 2 + 1 then _ else if j * 2 + 1 = k * 2 then _ else _) = _
      rw [if_neg (by omega), if_neg (by omega)]; exact this.2

set_option maxHeartbeats 400000 in
set_option maxRecDepth 100000 in
theorem buildVec_some (ad : Addr) (n cap : Nat) (S : Nat → ByteArray) (C : Nat → Int) (hn : n ≤ 1048576) (w : World) (hS : VEo w (some ad) n S C) :
    Calls Try.prog 14 #[.slice (some ad) n cap] w fun e w' => e = .returned (.slice (some ⟨w.heap.size, 0, none⟩) n n) ∧ VEo w' (some ⟨w.heap.size, 0, none⟩) n S C ∧ w.grownBy w' none := by
  have HS : Hid (VEo w (some ad) n S C) := hS
  clear hS
  obtain ⟨i0, hi, hz0, hz1, hz2⟩ := info_parts Try.info66
  have hnil := fun w => Lib.run_eql_slice_nil (P := Try.prog) w 23 63 (some ad) n cap 0 0 Try.underlying23
  go_enter Try.func14, Try.ntmps14
  go_wp2_with (at_make; refine wpList_make_full _ rfl _ _ 34 rfl w.heap.size 66 i0 _ 2 Try.underlying34 hi hz0 hz1 _ _ _ _ n rfl rfl rfl rfl (by rw [hz2]; omega) (by unfold maxLen; omega) (Nat.le_refl _) ?_; intro w1 hown hgrow)
  obtain ⟨f0, hR0⟩ := row_of_owns hown
  have R0 : Hid (w1.rowIs w.heap.size 66 (n * 2) f0) := hR0
  have HG : Hid (w.grownBy w1 none) := hgrow
  clear hown hR0 hgrow
  go_loopw [4] (fun i wr => ∃ (k : Nat) (f : Nat → Value), k ≤ n ∧ i = .int .i64 k ∧ Hid (wr.rowIs w.heap.size 66 (n * 2) f ∧ (∀ j, j < k → f (j * 2) = .string (S j) ∧ f (j * 2 + 1) = .int .u64 (C j)) ∧ w.grownBy wr none)) (fun i _ => n - (intOf i).toNat)
  case atStart => exact ⟨0, f0, Nat.zero_le _, rfl, R0.out, fun j hj => absurd hj (by omega), HG.out⟩
  case round =>
    obtain ⟨k, f, hk, rfl, H⟩ := hrel
    by_cases hlt : k < n
    · obtain ⟨ad', e', g1, g2⟩ := HS.out k hlt
      obtain rfl := Option.some.inj e'
      clear e'
      have h1 := H.out.2.2.cell g1 (by simp)
      have h2 := H.out.2.2.cell g2 (by simp)
      clear g1 g2
      have c1 := H.out.1.cell (i := k * 2) (by omega)
      have c2 := H.out.1.cell (i := k * 2 + 1) (by omega)
      have z1 := H.out.1.frozen (k * 2)
      have z2 := H.out.1.frozen (k * 2 + 1)
      go_wp2_with fail
      go_region
      go_wp2
      go_roundw
      case rel =>
        exact ⟨k + 1, _, by omega, by go_num, build_step H.out⟩
      case measure => simp [intOf]; omega
    · go_wp2
      go_ret
      refine ⟨rfl, fun i hi => ⟨_, rfl, ?_, ?_⟩, H.out.2.2⟩
      · have h1 := H.out.1.cell (i := i * 2) (by omega)
        rw [(H.out.2.1 i (by omega)).1] at h1
        rw [add_new]; exact h1
      · have h1 := H.out.1.cell (i := i * 2 + 1) (by omega)
        rw [(H.out.2.1 i (by omega)).2] at h1
        rw [add_new]; exact h1

theorem buildVec_nil (cap : Nat) (w : World) :
    Calls Try.prog 14 #[.slice none 0 cap] w fun e w' => e = .returned (.slice none 0 0) ∧ w' = w := by
  have hnil := fun w => Lib.run_eql_slice_nil (P := Try.prog) w 23 63 none 0 cap 0 0 Try.underlying23
  go_enter Try.func14, Try.ntmps14
  go_wp2
  go_ret
  exact ⟨rfl, rfl⟩

theorem buildVec_any (a : Option Addr) (n cap : Nat) (S : Nat → ByteArray) (C : Nat → Int) (hn : n ≤ 1048576) (h0 : a = none → n = 0) (w : World) (hS : VEo w a n S C) :
    Calls Try.prog 14 #[.slice a n cap] w fun e w' => ∃ a' c', e = .returned (.slice a' n c') ∧ VEo w' a' n S C ∧ w.grownBy w' none := by
  cases a with
  | none =>
    obtain rfl := h0 rfl
    exact (buildVec_nil cap w).mono fun e w' ⟨he, hw⟩ => ⟨none, 0, he, fun i hi => absurd hi (by omega), by rw [hw]; exact gb_refl _ _⟩
  | some ad => exact (buildVec_some ad n cap S C hn w hS).mono fun e w' ⟨he, hv, hw⟩ => ⟨_, _, he, hv, hw⟩
end Go.Proofs.Qxb6613110a
