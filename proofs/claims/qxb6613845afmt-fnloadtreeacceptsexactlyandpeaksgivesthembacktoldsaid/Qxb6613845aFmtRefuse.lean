/- LoadTree where it refuses: an error that is not nil, no tree. -/
import Derived.Test.Qxb6613845aFmtErr
import Derived.Test.Qxb6613845aFmtChunk
namespace Go.Proofs.Qxb6613845aFmt
open Go.RowKit Go.Extern.Stop Go.Stop Go.Extern

set_option maxRecDepth 100000 in
set_option maxHeartbeats 1000000 in
theorem refuse_neg (F : Interp) (z : Int) (hz : z < 0) (a : Option Addr) (n cap : Nat) (w : World) (hF : F.answers w.tape) :
    Calls Tryf.prog 8 #[.int .i64 z, .slice a n cap] w fun e w' => ∃ p, e = .returned (.tuple #[.pointer none, .iface 65 (.pointer p)]) ∧ Hid (w.grownBy w' none) := by
  have HF : Hid (F.answers w.tape) := hF
  clear hF
  go_enter Tryf.func8, Tryf.ntmps8
  go_wp2_with (first | (go_at_call 18; refine (errorf_runs F z n w.heap.size _ (by exact HF.out) (by go_simp) (by go_simp)).mono ?_; rintro e w' ⟨rfl, hg⟩; have HG : Hid (w.grownBy w' none) := gb_trans (gb_alloc (gb_refl _ _) _) hg; clear hg))
  go_ret2
  exact ⟨_, rfl, HG.out⟩

set_option maxRecDepth 100000 in
set_option maxHeartbeats 1000000 in
theorem refuse_len (F : Interp) (x : Nat) (hx : x < 9223372036854775808) (a : Option Addr) (n cap : Nat) (hne : n ≠ ones 64 x * 32) (w : World) (hF : F.answers w.tape) :
    Calls Tryf.prog 8 #[.int .i64 (x : Int), .slice a n cap] w fun e w' => ∃ p, e = .returned (.tuple #[.pointer none, .iface 65 (.pointer p)]) ∧ Hid (w.grownBy w' none) := by
  have HF : Hid (F.answers w.tape) := hF
  have ho := ones_le 64 x
  have hoc : ∀ W, Calls Tryf.prog 17 #[.int .u64 (x : Int)] W fun e w' => e = .returned (.int .i64 (ones 64 x : Nat)) ∧ W = w' := fun W => (oc64 x (by omega) W).mono fun e w' h => ⟨h.1, h.2.symm⟩
  clear hF
  generalize ones 64 x = m at *
  have hb : ((n : Int) == (m : Int) * 32) = false := by rw [beq_eq_false_iff_ne]; omega
  have hz : decide ((x : Int) < 0) = false := by simp
  go_enter Tryf.func8, Tryf.ntmps8
  go_wp2_with (first | (go_at_call 17; refine (hoc _).mono ?_; rintro e w' ⟨rfl, rfl⟩) | (go_at_call 18; refine (errorf_runs F x n w.heap.size _ (by exact HF.out) (by go_simp) (by go_simp)).mono ?_; rintro e w' ⟨rfl, hg⟩; have HG : Hid (w.grownBy w' none) := gb_trans (gb_alloc (gb_refl _ _) _) hg; clear hg))
  go_ret2
  exact ⟨_, rfl, HG.out⟩
end Go.Proofs.Qxb6613845aFmt
