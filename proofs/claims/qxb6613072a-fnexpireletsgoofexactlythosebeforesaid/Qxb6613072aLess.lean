/- incomplete's closure for sort.Slice: which of two keys' messages began first? -/
import Derived.Test.Qxb6613072aWhich
namespace Go.Proofs.Qxb6613072a
open Go.RowKit Go.Sort Go.Maps

/-- the five cells of a key at block blk from place o on -/
structure KeyCells (w : World) (blk o : Nat) (m : HM) : Prop where
  c0 : w.cell? ⟨blk, o, none⟩ = some (.string m.o)
  c1 : w.cell? ⟨blk, o + 1, none⟩ = some (.int .i64 m.ref)
  c2 : w.cell? ⟨blk, o + 2, none⟩ = some (.int .i64 m.tot)
  c3 : w.cell? ⟨blk, o + 3, none⟩ = some (.int .u8 m.el)
  c4 : w.cell? ⟨blk, o + 4, none⟩ = some (.int .u8 m.ty)

set_option maxRecDepth 100000 in
set_option maxHeartbeats 2000000 in
theorem less40 (a b size c blk Bj Bk jb mb pa qb : Nat) (m m' : HM) (x y : Int) (W : World) (ha : a < size) (hb : b < size)
    (k0 : W.cell? ⟨Bj, 0, none⟩ = some (.pointer (some ⟨jb, 0, none⟩))) (k1 : W.cell? ⟨jb, 0, none⟩ = some (.map (some mb))) (k2 : W.cell? ⟨Bk, 0, none⟩ = some (.slice (some ⟨blk, 0, none⟩) size c))
    (ka : KeyCells W blk (a * 5) m) (kb : KeyCells W blk (b * 5) m')
    (la : ∀ q, (Instr.lookup 52 (.map (some mb)) (keyV m) false).run Try.prog (W.drewN q) = .ok (.pointer (some ⟨pa, 0, none⟩)) (W.drewN q)) (lb : ∀ q, (Instr.lookup 52 (.map (some mb)) (keyV m') false).run Try.prog (W.drewN q) = .ok (.pointer (some ⟨qb, 0, none⟩)) (W.drewN q))
    (ba : W.cell? ⟨pa, 0, none⟩ = some (.int .u64 x)) (bb : W.cell? ⟨qb, 0, none⟩ = some (.int .u64 y)) :
    Calls Try.prog 40 #[.int .i64 a, .int .i64 b, .pointer (some ⟨Bj, 0, none⟩), .pointer (some ⟨Bk, 0, none⟩)] W fun e w' => e = .returned (.bool (decide (x < y))) ∧ ∃ q, w' = W.drewN q := by
  obtain ⟨a0, a1, a2, a3, a4⟩ := ka
  obtain ⟨b0, b1, b2, b3, b4⟩ := kb
  unfold keyV at la lb
  have ha' : (a : Int) < (size : Int) := by omega
  have hb' : (b : Int) < (size : Int) := by omega
  go_enter Try.func40, Try.ntmps40
  go_wp2_with fail
  go_quiet (fail)
  go_wp2
  go_ret
  exact ⟨rfl, nq, rfl⟩
end Go.Proofs.Qxb6613072a
