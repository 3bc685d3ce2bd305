/- What a step does to the world; bytes behind a slice's address; the law's own helpers: zzBytes.., zzCopy, zzBytesEqual. -/
import Derived.Test.Qxb6613845aFmtOnes
import Derived.WalkKit
import Derived.WalkLawsBesides
import Derived.Deep.QuietTactic
import Derived.BigQuiet
import Derived.Deep.OwnRows
import Derived.OwnWalk
namespace Go.Proofs.Qxb6613845aFmt
open Go.RowKit

theorem gb_trans {a b c : World} {row : Option Nat} (h : a.grownBy b row) (k : b.grownBy c row) : a.grownBy c row :=
  ⟨k.os.trans h.os, k.tape.trans h.tape, k.output.trans h.output, Nat.le_trans h.size k.size, fun i hi hr => (k.block i (Nat.lt_of_lt_of_le hi h.size) hr).trans (h.block i hi hr)⟩
theorem gb_refl (w : World) (row : Option Nat) : w.grownBy w row := ⟨rfl, rfl, rfl, Nat.le_refl _, fun _ _ _ => rfl⟩
theorem gb_drew {a c : World} {row : Option Nat} (h : a.grownBy c row) : a.grownBy c.drew row := ⟨h.os, h.tape, h.output, h.size, h.block⟩
theorem gb_drewN {a c : World} {row : Option Nat} (h : a.grownBy c row) (q : Nat) : a.grownBy (c.drewN q) row := ⟨h.os, h.tape, h.output, h.size, h.block⟩
theorem gb_alloc {a c : World} {row : Option Nat} (h : a.grownBy c row) (o : Obj) : a.grownBy (c.alloc o) row := gb_trans h (World.grownBy_alloc c o row)
theorem gb_setCell {a c : World} {row : Option Nat} (h : a.grownBy c row) {p : Addr} (hp : a.heap.size ≤ p.block ∨ row = some p.block) (v : Value) : a.grownBy (c.setCell p v) row := by
  refine ⟨h.os, h.tape, h.output, by rw [show (c.setCell p v).heap.size = c.heap.size by simp [World.setCell]]; exact h.size, fun i hi hr => ?_⟩
  rw [Below.heap_setCell c p v i (fun e => by subst e; exact hp.elim (fun h => by omega) (fun h => hr h.symm))]
  exact h.block i hi hr
theorem gb_below {a c : World} (h : a.grownBy c none) : Below a.heap.size a c := ⟨h.os, h.tape, h.output, h.size, fun i hi => h.block i hi (by simp)⟩
theorem below_gb {a c : World} (h : Below a.heap.size a c) : a.grownBy c none := ⟨h.os, h.tape, h.output, h.size, fun i hi _ => h.block i hi⟩
theorem gb_later {a b c : World} {row : Nat} (h : a.grownBy b none) (k : b.grownBy c (some row)) (hr : a.heap.size ≤ row) : a.grownBy c none :=
  ⟨k.os.trans h.os, k.tape.trans h.tape, k.output.trans h.output, Nat.le_trans h.size k.size, fun i hi hn => (k.block i (Nat.lt_of_lt_of_le hi h.size) (by intro e; cases e; omega)).trans (h.block i hi hn)⟩
theorem rowIs_grown {w w' : World} {b n : Nat} {t : TypeId} {f : Nat → Value} {row : Option Nat} (h : w.rowIs b t n f) (g : w.grownBy w' row) (hr : some b ≠ row) : w'.rowIs b t n f := h.of_block (g.block b h.lt hr)

/-- n bytes behind a slice's address (of none nothing is asked) -/
def Bys (w : World) (a : Option Addr) (n : Nat) (C : Nat → Int) : Prop := ∀ i, i < n → ∃ ad : Addr, a = some ad ∧ w.cell? (ad.add i) = some (.int .u8 (C i))

theorem Bys.grown {w w' : World} {a : Option Addr} {n : Nat} {C : Nat → Int} (h : Bys w a n C) (g : w.grownBy w' none) : Bys w' a n C := by
  intro i hi
  obtain ⟨ad, rfl, h1⟩ := h i hi
  exact ⟨ad, rfl, g.cell h1 (by simp)⟩
theorem add_new (B i : Nat) : (⟨B, 0, none⟩ : Addr).add i = ⟨B, i, none⟩ := by
  unfold Addr.add
  split
  · rename_i h; rw [h]
  · simp
theorem Bys.of_row {w : World} {B n : Nat} {t : TypeId} {f : Nat → Value} {C : Nat → Int} (h : w.rowIs B t n f) (hf : ∀ i, i < n → f i = .int .u8 (C i)) : Bys w (some ⟨B, 0, none⟩) n C := by
  intro i hi
  refine ⟨_, rfl, ?_⟩
  rw [add_new, h.cell hi, hf i hi]
theorem row_of_owns {w1 : World} {e : TypeId} {size n B : Nat} {xs : List Value} (h : w1.ownsRow B e size (.slice (some ⟨B, 0, none⟩) n n) n xs) : ∃ f, w1.rowIs B e (n * size) f := by
  obtain ⟨_, hrow⟩ := h
  rcases hrow with ⟨h, _⟩ | ⟨g, c', cur, hv, _, hblk, _, _, hsz, _⟩
  · cases h
  · obtain ⟨rfl, rfl⟩ : B = g ∧ n = c' := by simpa using hv
    exact ⟨fun i => cur.getD i undef, cur, hblk, hsz, fun i hi => by rw [Array.getElem?_eq_getElem (by omega)]; simp [Array.getD, hsz, hi]⟩

theorem Tryf.info5 : (Tryf.prog.info? 5).map (fun i => (i.zero, i.size, i.bytes)) = some (some (.int .u8 0), 1, 1) := by kernel_rfl

/-- zzBytes..: is the slice short? -/
theorem zzBytes_runs (z : Int) (a : Option Addr) (n cap : Nat) (hn : n ≤ 1048576) (w : World) :
    Calls Tryf.prog 5 #[.int .i64 z, .slice a n cap] w fun e w' => e = .returned (.bool true) ∧ w' = w := by
  go_enter Tryf.func5, Tryf.ntmps5
  go_wp2
  go_ret
  exact ⟨rfl, rfl⟩
theorem zzBytes_long (z : Int) (a : Option Addr) (n cap : Nat) (hn : ¬ n ≤ 1048576) (hm : n ≤ maxLen) (w : World) :
    Calls Tryf.prog 5 #[.int .i64 z, .slice a n cap] w fun e w' => e = .returned (.bool false) ∧ w' = w := by
  unfold maxLen at hm
  have hn' : ¬ n ≤ 1048576 := hn
  go_enter Tryf.func5, Tryf.ntmps5
  go_wp2
  go_ret
  exact ⟨rfl, rfl⟩

set_option maxHeartbeats 400000 in
set_option maxRecDepth 100000 in
theorem zzCopy_runs (a : Option Addr) (n cap : Nat) (C : Nat → Int) (hn : n ≤ 1048576) (w : World) (hS : Bys w a n C) :
    Calls Tryf.prog 6 #[.slice a n cap] w fun e w' => e = .returned (.slice (some ⟨w.heap.size, 0, none⟩) n n) ∧ Hid (Bys w' (some ⟨w.heap.size, 0, none⟩) n C ∧ w.grownBy w' none) := by
  have HS : Hid (Bys w a n C) := hS
  clear hS
  obtain ⟨i0, hi, hz0, hz1, hz2⟩ := info_parts Tryf.info5
  go_enter Tryf.func6, Tryf.ntmps6
  go_wp2_with (at_make; refine wpList_make_full _ rfl _ _ 22 rfl w.heap.size 5 i0 _ 1 Tryf.underlying22 hi hz0 hz1 _ _ _ _ n rfl rfl rfl rfl (by rw [hz2]; omega) (by unfold maxLen; omega) (Nat.le_refl _) ?_; intro w1 hown hgrow)
  obtain ⟨f0, hR0⟩ := row_of_owns hown
  rw [Nat.mul_one] at hR0
  have R0 : Hid (w1.rowIs w.heap.size 5 n f0) := hR0
  have HG : Hid (w.grownBy w1 none) := hgrow
  clear hown hR0 hgrow
  go_loopw [4] (fun i wr => ∃ (k : Nat) (f : Nat → Value), k ≤ n ∧ i = .int .i64 k ∧ Hid (wr.rowIs w.heap.size 5 n f ∧ (∀ j, j < k → f j = .int .u8 (C j)) ∧ w.grownBy wr none)) (fun i _ => n - (intOf i).toNat)
  case atStart => exact ⟨0, f0, Nat.zero_le _, rfl, R0.out, fun j hj => absurd hj (by omega), HG.out⟩
  case round =>
    obtain ⟨k, f, hk, rfl, H⟩ := hrel
    by_cases hlt : k < n
    · obtain ⟨ad, rfl, g1⟩ := HS.out k hlt
      have h1 := H.out.2.2.cell g1 (by simp)
      clear g1
      have c1 := H.out.1.cell (i := k) (by omega)
      have z1 := H.out.1.frozen k
      go_wp2
      go_roundw
      case rel =>
        refine ⟨k + 1, _, by omega, by go_num, H.out.1.set k (.int .u8 (C k)), fun j hj => ?_, gb_setCell H.out.2.2 (.inl (Nat.le_refl _)) _⟩
        by_cases e : j = k
        · rw [if_pos e, e]
        · rw [if_neg e]; exact H.out.2.1 j (by omega)
      case measure => simp [intOf]; omega
    · obtain rfl : k = n := by omega
      go_wp2
      go_ret
      exact ⟨rfl, Bys.of_row H.out.1 H.out.2.1, H.out.2.2⟩

set_option maxHeartbeats 400000 in
set_option maxRecDepth 100000 in
theorem zzBytesEqual_runs (a b : Option Addr) (n ca cb : Nat) (C : Nat → Int) (hn : n ≤ 1048576) (w : World) (hA : Bys w a n C) (hB : Bys w b n C) :
    Calls Tryf.prog 9 #[.slice a n ca, .slice b n cb] w fun e w' => e = .returned (.bool true) ∧ ∃ q, w' = w.drewN q := by
  have HA : Hid (Bys w a n C) := hA
  have HB : Hid (Bys w b n C) := hB
  clear hA hB
  go_enter Tryf.func9, Tryf.ntmps9
  go_wp2
  go_loopw [5] (fun i wr => ∃ (k q : Nat), k ≤ n ∧ i = .int .i64 k ∧ wr = w.drewN q) (fun i _ => n - (intOf i).toNat)
  case atStart => exact ⟨0, 0, Nat.zero_le _, rfl, rfl⟩
  case round =>
    obtain ⟨k, q, hk, rfl, rfl⟩ := hrel
    by_cases hlt : k < n
    · obtain ⟨ad, rfl, h1⟩ := HA.out k hlt
      obtain ⟨bd, rfl, h2⟩ := HB.out k hlt
      go_wp2_with fail
      go_quiet (fail)
      go_wp2
      go_roundw
      case rel => exact ⟨k + 1, q + nq, by omega, by go_num, by first | rfl | rw [World.drewN_drewN]⟩
      case measure => simp [intOf]; omega
    · obtain rfl : k = n := by omega
      go_wp2
      go_ret
      exact ⟨rfl, q, rfl⟩
end Go.Proofs.Qxb6613845aFmt
