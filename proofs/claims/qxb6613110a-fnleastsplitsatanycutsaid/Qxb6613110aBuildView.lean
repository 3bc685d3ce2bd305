/- buildView: a new row of pointers to the entries. -/
import Derived.Test.Qxb6613110aView
import Derived.RegionTactic
import Derived.BigRegion
namespace Go.Proofs.Qxb6613110a
open Go.RowKit
set_option linter.unusedVariables false
theorem Try.info79 : (Try.prog.info? 79).map (fun i => (i.zero, i.size, i.bytes)) = some (some (.pointer none), 1, 8) := by kernel_rfl

/-- an entry's own cells that are read: its id and its status -/
def EntO (w : World) (pb : Nat) (v : VW) : Prop := w.cell? ⟨pb, 0, none⟩ = some (.string v.id) ∧ w.cell? ⟨pb, 2, none⟩ = some (.string v.st)
theorem EntO.new {w w' : World} {pb : Nat} {v : VW} (h : EntO w pb v) (g : w.grownBy w' none) : EntO w' pb v := ⟨g.cell h.1 (by simp), g.cell h.2 (by simp)⟩

/-- n pointers to entries behind a slice's address -/
def PVo (w : World) (a : Option Addr) (n : Nat) (V : Nat → VW) : Prop :=
  ∀ i, i < n → ∃ (ad : Addr) (pb : Nat), a = some ad ∧ w.cell? (ad.add i) = some (.pointer (some ⟨pb, 0, none⟩)) ∧ EntO w pb (V i)
theorem PVo.new {w w' : World} {a : Option Addr} {n : Nat} {V : Nat → VW} (h : PVo w a n V) (g : w.grownBy w' none) : PVo w' a n V := by
  intro i hi
  obtain ⟨ad, pb, e, h1, h2⟩ := h i hi
  exact ⟨ad, pb, e, g.cell h1 (by simp), h2.new g⟩
theorem ViewO.new {w w' : World} {a : Option Addr} {n : Nat} {V : Nat → VW} (h : ViewO w a n V) (g : w.grownBy w' none) : ViewO w' a n V := by
  intro i hi
  obtain ⟨ad, e, h0, h1, h2, h3, h4, h5⟩ := h i hi
  exact ⟨ad, e, g.cell h0 (by simp), g.cell h1 (by simp), g.cell h2 (by simp), g.cell h3 (by simp), g.cell h4 (by simp), g.cell h5 (by simp)⟩

theorem view_step {w wr w2 : World} {n k : Nat} {f : Nat → Value} {V : Nat → VW} (hk : k < n)
    (h : wr.rowIs w.heap.size 79 n f ∧ (∀ j, j < k → ∃ pb, w.heap.size < pb ∧ f j = .pointer (some ⟨pb, 0, none⟩) ∧ EntO wr pb (V j)) ∧ w.grownBy wr none) (g : wr.grownBy w2 none) :
    ∃ f', ((w2.setCell ⟨w.heap.size, k, none⟩ (.pointer (some ⟨w2.heap.size, 0, none⟩))).alloc (.cells (EV (V k)) 77)).rowIs w.heap.size 79 n f' ∧
      (∀ j, j < k + 1 → ∃ pb, w.heap.size < pb ∧ f' j = .pointer (some ⟨pb, 0, none⟩) ∧ EntO ((w2.setCell ⟨w.heap.size, k, none⟩ (.pointer (some ⟨w2.heap.size, 0, none⟩))).alloc (.cells (EV (V k)) 77)) pb (V j)) ∧
      w.grownBy ((w2.setCell ⟨w.heap.size, k, none⟩ (.pointer (some ⟨w2.heap.size, 0, none⟩))).alloc (.cells (EV (V k)) 77)) none := by
  obtain ⟨h1, h2, h3⟩ := h
  have hB : w.heap.size < w2.heap.size := Nat.lt_of_lt_of_le h1.lt g.size
  have hsz : (w2.setCell ⟨w.heap.size, k, none⟩ (.pointer (some ⟨w2.heap.size, 0, none⟩))).heap.size = w2.heap.size := by simp [World.setCell]
  refine ⟨_, (((h1.of_block (g.block _ h1.lt (by simp))).set k _).alloc _), fun j hj => ?_, gb_alloc (gb_setCell (gb_trans h3 g) (.inl (Nat.le_refl _)) _) _⟩
  by_cases e : j = k
  · subst e
    refine ⟨w2.heap.size, hB, by simp, ?_, ?_⟩
    · rw [World.cell?_alloc_at _ _ _ _ (by simp [hsz])]; rfl
    · rw [World.cell?_alloc_at _ _ _ _ (by simp [hsz])]; rfl
  · obtain ⟨pb, hpb, ef, hE⟩ := h2 j (by omega)
    have hE2 := hE.new g
    refine ⟨pb, hpb, by rw [if_neg e]; exact ef, ?_⟩
    refine EntO.new (w := w2.setCell ⟨w.heap.size, k, none⟩ (.pointer (some ⟨w2.heap.size, 0, none⟩))) ⟨?_, ?_⟩ (World.grownBy_alloc _ _ none)
    · rw [World.cell?_setCell_other _ _ _ _ (fun e => by have := congrArg Addr.block e; simp at this; omega)]; exact hE2.1
    · rw [World.cell?_setCell_other _ _ _ _ (fun e => by have := congrArg Addr.block e; simp at this; omega)]; exact hE2.2

set_option maxHeartbeats 1000000 in
set_option maxRecDepth 100000 in
theorem buildView_any (a : Option Addr) (n cap : Nat) (V : Nat → VW) (hn : n ≤ 1048576) (w : World) (hV : ViewO w a n V) :
    Calls Try.prog 21 #[.slice a n cap] w fun e w' => e = .returned (.slice (some ⟨w.heap.size, 0, none⟩) n n) ∧ PVo w' (some ⟨w.heap.size, 0, none⟩) n V ∧ w.grownBy w' none := by
  have HV : Hid (ViewO w a n V) := hV
  clear hV
  obtain ⟨i0, hi, hz0, hz1, hz2⟩ := info_parts Try.info79
  go_enter Try.func21, Try.ntmps21
  go_wp2_with (at_make; refine wpList_make_full _ rfl _ _ 45 rfl w.heap.size 79 i0 _ 1 Try.underlying45 hi hz0 hz1 _ _ _ _ n rfl rfl rfl rfl (by rw [hz2]; omega) (by unfold maxLen; omega) (Nat.le_refl _) ?_; intro w1 hown hgrow)
  obtain ⟨f0, hR0⟩ := row_of_owns hown
  rw [Nat.mul_one] at hR0
  have R0 : Hid (w1.rowIs w.heap.size 79 n f0) := hR0
  have HG : Hid (w.grownBy w1 none) := hgrow
  clear hown hR0 hgrow
  go_loopw [4] (fun i wr => ∃ (k : Nat) (f : Nat → Value), k ≤ n ∧ i = .int .i64 k ∧ Hid (wr.rowIs w.heap.size 79 n f ∧ (∀ j, j < k → ∃ pb, w.heap.size < pb ∧ f j = .pointer (some ⟨pb, 0, none⟩) ∧ EntO wr pb (V j)) ∧ w.grownBy wr none)) (fun i _ => n - (intOf i).toNat)
  case atStart => exact ⟨0, f0, Nat.zero_le _, rfl, R0.out, fun j hj => absurd hj (by omega), HG.out⟩
  case round =>
    obtain ⟨k, f, hk, rfl, H⟩ := hrel
    by_cases hlt : k < n
    · obtain ⟨ad, rfl, g0, g1, g2, g3, g4, g5⟩ := HV.out k hlt
      have h0 := H.out.2.2.cell g0 (by simp)
      have h1 := H.out.2.2.cell g1 (by simp)
      have h2 := H.out.2.2.cell g2 (by simp)
      have h3 := H.out.2.2.cell g3 (by simp)
      have h4 := H.out.2.2.cell g4 (by simp)
      have h5 := H.out.2.2.cell g5 (by simp)
      clear g0 g1 g2 g3 g4 g5
      go_wp2_with fail
      refine (entryOf_any (V k) _).mono ?_
      rintro e w2 ⟨rfl, hg2⟩
      have G2 : Hid (wr.grownBy w2 none) := hg2
      clear hg2 h0 h1 h2 h3 h4 h5
      have c1 := G2.out.cell (H.out.1.cell (i := k) hlt) (by simp)
      have z1 : w2.frozen? ⟨w.heap.size, k, none⟩ = false := (World.frozen?_of_block (G2.out.block w.heap.size H.out.1.lt (by simp))).trans (H.out.1.frozen k)
      have hb := World.block_lt_of_cell? _ _ c1
      go_wp2
      go_roundw
      case rel =>
        obtain ⟨f', R⟩ := view_step hlt H.out G2.out
        exact ⟨k + 1, f', by omega, by go_num, R⟩
      case measure => simp [intOf]; omega
    · go_wp2
      go_ret
      refine ⟨rfl, fun i hi => ?_, H.out.2.2⟩
      obtain ⟨pb, _, e, hE⟩ := H.out.2.1 i (by omega)
      have h1 := H.out.1.cell (i := i) hi
      rw [e] at h1
      exact ⟨_, pb, rfl, by rw [add_new]; exact h1, hE⟩
end Go.Proofs.Qxb6613110a
