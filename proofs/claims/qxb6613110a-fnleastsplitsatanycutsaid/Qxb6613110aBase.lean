/- What a step does to the world: 'w.grownBy w' row' (new blocks; block 'row' alone of the old ones may have turned), handed on. -/
import Derived.Test.Qxb6613110aReads
import Derived.Deep.OwnRows
namespace Go.Proofs.Qxb6613110a
open Go.RowKit

theorem gb_trans {a b c : World} {row : Option Nat} (h : a.grownBy b row) (k : b.grownBy c row) : a.grownBy c row :=
  ⟨k.os.trans h.os, k.tape.trans h.tape, k.output.trans h.output, Nat.le_trans h.size k.size, fun i hi hr => (k.block i (Nat.lt_of_lt_of_le hi h.size) hr).trans (h.block i hi hr)⟩
theorem gb_refl (w : World) (row : Option Nat) : w.grownBy w row := ⟨rfl, rfl, rfl, Nat.le_refl _, fun _ _ _ => rfl⟩
theorem gb_but {a c : World} (h : a.grownBy c none) (row : Option Nat) : a.grownBy c row := ⟨h.os, h.tape, h.output, h.size, fun i hi _ => h.block i hi (by simp)⟩
theorem gb_drew {a c : World} {row : Option Nat} (h : a.grownBy c row) : a.grownBy c.drew row := ⟨h.os, h.tape, h.output, h.size, h.block⟩
theorem gb_drewN {a c : World} {row : Option Nat} (h : a.grownBy c row) (q : Nat) : a.grownBy (c.drewN q) row := ⟨h.os, h.tape, h.output, h.size, h.block⟩
theorem gb_alloc {a c : World} {row : Option Nat} (h : a.grownBy c row) (o : Obj) : a.grownBy (c.alloc o) row := gb_trans h (World.grownBy_alloc c o row)
/-- a store into a new block, or into 'row' itself -/
theorem gb_setCell {a c : World} {row : Option Nat} (h : a.grownBy c row) {p : Addr} (hp : a.heap.size ≤ p.block ∨ row = some p.block) (v : Value) : a.grownBy (c.setCell p v) row := by
  refine ⟨h.os, h.tape, h.output, by rw [show (c.setCell p v).heap.size = c.heap.size by simp [World.setCell]]; exact h.size, fun i hi hr => ?_⟩
  rw [Below.heap_setCell c p v i (fun e => by subst e; exact hp.elim (fun h => by omega) (fun h => hr h.symm))]
  exact h.block i hi hr
theorem gb_below {a c : World} (h : a.grownBy c none) : Below a.heap.size a c := ⟨h.os, h.tape, h.output, h.size, fun i hi => h.block i hi (by simp)⟩
/-- a later step that writes one block of those that are new to an earlier world -/
theorem gb_later {a b c : World} {row : Nat} (h : a.grownBy b none) (k : b.grownBy c (some row)) (hr : a.heap.size ≤ row) : a.grownBy c none :=
  ⟨k.os.trans h.os, k.tape.trans h.tape, k.output.trans h.output, Nat.le_trans h.size k.size, fun i hi hn => (k.block i (Nat.lt_of_lt_of_le hi h.size) (by intro e; cases e; omega)).trans (h.block i hi hn)⟩

theorem VEo.grown {w w' : World} {row a : _} {n : Nat} {S : Nat → ByteArray} {C : Nat → Int} (h : VEo w a n S C) (g : w.grownBy w' row) (hne : 0 < n → ∀ ad, a = some ad → some ad.block ≠ row) : VEo w' a n S C := by
  intro i hi
  obtain ⟨ad, rfl, h1, h2⟩ := h i hi
  have e : (ad.add (i * 2)).block = ad.block := by unfold Addr.add; split <;> rfl
  exact ⟨ad, rfl, g.cell h1 (by rw [e]; exact hne (by omega) ad rfl), g.cell h2 (by show some (ad.add (i * 2)).block ≠ row; rw [e]; exact hne (by omega) ad rfl)⟩
theorem StrO.grown {w w' : World} {row a : _} {n : Nat} {S : Nat → ByteArray} (h : StrO w a n S) (g : w.grownBy w' row) (hne : ∀ ad, a = some ad → some ad.block ≠ row) : StrO w' a n S := by
  intro i hi
  obtain ⟨ad, rfl, h1⟩ := h i hi
  have e : (ad.add i).block = ad.block := by unfold Addr.add; split <;> rfl
  exact ⟨ad, rfl, g.cell h1 (by rw [e]; exact hne ad rfl)⟩
theorem VEo.new {w w' : World} {a : Option Addr} {n : Nat} {S : Nat → ByteArray} {C : Nat → Int} (h : VEo w a n S C) (g : w.grownBy w' none) : VEo w' a n S C := h.grown g (by simp)
theorem StrO.new {w w' : World} {a : Option Addr} {n : Nat} {S : Nat → ByteArray} (h : StrO w a n S) (g : w.grownBy w' none) : StrO w' a n S := h.grown g (by simp)

theorem add_new (B i : Nat) : (⟨B, 0, none⟩ : Addr).add i = ⟨B, i, none⟩ := by
  unfold Addr.add
  split
  · rename_i h; rw [h]
  · simp

theorem row_of_owns {w1 : World} {e : TypeId} {size n B : Nat} {xs : List Value} (h : w1.ownsRow B e size (.slice (some ⟨B, 0, none⟩) n n) n xs) : ∃ f, w1.rowIs B e (n * size) f := by
  obtain ⟨_, hrow⟩ := h
  rcases hrow with ⟨h, _⟩ | ⟨g, c', cur, hv, _, hblk, _, _, hsz, _⟩
  · cases h
  · obtain ⟨rfl, rfl⟩ : B = g ∧ n = c' := by simpa using hv
    exact ⟨fun i => cur.getD i undef, cur, hblk, hsz, fun i hi => by rw [Array.getElem?_eq_getElem (by omega)]; simp [Array.getD, hsz, hi]⟩
end Go.Proofs.Qxb6613110a
