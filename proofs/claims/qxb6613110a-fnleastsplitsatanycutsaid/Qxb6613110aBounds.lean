/- bounds: the replica's own test on an entry is 'counted'. -/
import Derived.Test.Qxb6613110aGone
import Derived.Maps.OwnOps
namespace Go.Proofs.Qxb6613110a
open Go.RowKit Go.Maps
set_option linter.unusedVariables false

theorem zero29 (w : World) : (zeroValue 29).run Try.prog w = .ok (.int .u64 0) w := by kernel_rfl

/-- the map of the gone members, as it lies -/
def MapO (w : World) (mb n : Nat) (V : Nat → VW) : Prop := ∃ D : DataW Unit, w.ownsMap Try.prog 30 (plainElem Try.prog 29) mb n D ∧ GoneIs n n V D
theorem MapO.new {w w' : World} {mb n : Nat} {V : Nat → VW} (h : MapO w mb n V) (g : w.grownBy w' none) : MapO w' mb n V := by
  obtain ⟨D, h1, h2⟩ := h
  exact ⟨D, h1.kept g (by simp), h2⟩

theorem MapO.look {w : World} {mb n : Nat} {V : Nat → VW} (h : MapO w mb n V) (hF : ViewWf n V) {i : Nat} (hi : i < n) : (Instr.lookup 47 (.map (some mb)) (.string (V i).id) false).run Try.prog w = .ok (.int .u64 (V i).gone) w := by
  obtain ⟨D, h1, h2⟩ := h
  obtain ⟨c, hrun, hat, _⟩ := h1.lookup_int keyed30 Try.underlying47 Try.underlying29 (zero29 w) (key := .string (V i).id) (kl := .string (V i).id.data.toList) (WideMaps.keyOf_string_mk Try.underlying30 (hF i hi).1)
  rw [h2.2.1 i hi] at hat
  rw [(Lit.int.inj (DataW.lit.inj hat)).2]; exact hrun

set_option maxHeartbeats 1000000 in
set_option maxRecDepth 100000 in
theorem bounds40 (rb pb mb n i : Nat) (V : Nat → VW) (hi : i < n) (hF : ViewWf n V) (w : World) (h1 : w.cell? ⟨rb, 10, none⟩ = some (.map (some mb))) (hM : MapO w mb n V) (hE : EntO w pb (V i)) :
    Calls Try.prog 40 #[.pointer (some ⟨rb, 0, none⟩), .pointer (some ⟨pb, 0, none⟩)] w fun e w' => e = .returned (.bool (countedB (V i))) ∧ ∃ q, w' = w.drewN q := by
  have hl : ∀ q, (Instr.lookup 47 (.map (some mb)) (.string (V i).id) false).run Try.prog (w.drewN q) = .ok (.int .u64 (V i).gone) (w.drewN q) := fun q => (hM.new (gb_drewN (gb_refl _ _) q)).look hF hi
  obtain ⟨e0, e2⟩ := hE
  clear hF hM
  cases c1 : ((V i).st.toList == [109, 101, 109, 98, 101, 114])
  · cases c2 : ((V i).st.toList == [102, 97, 105, 108, 101, 100])
    · go_enter Try.func40, Try.ntmps40
      go_wp2_with fail
      go_quiet (fail)
      go_wp2
      go_ret
      exact ⟨by simp [countedB, c1, c2], nq, rfl⟩
    · go_enter Try.func40, Try.ntmps40
      go_wp2_with fail
      go_quiet (fail)
      go_wp2
      go_ret
      exact ⟨by simp [countedB, c1, c2], nq, rfl⟩
  · go_enter Try.func40, Try.ntmps40
    go_wp2_with fail
    go_quiet (fail)
    go_wp2
    go_ret
    exact ⟨by simp [countedB, c1], nq, rfl⟩
end Go.Proofs.Qxb6613110a
