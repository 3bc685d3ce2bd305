/- slices.Chunk over a slice of 32 * m bytes, 32 at a time: which rounds come. -/
import Derived.RangeFuncNested
import Derived.RangeFuncBound
import Derived.RangeFuncCalls
import Derived.RangeFuncLeaves
import Derived.Shelf.Abstract
import Derived.WalkKit
import Derived.OwnWalkIn
import Derived.TacticsInMore
import Derived.LoopNIn
import Derived.LoopIn
import Derived.Sort.QuietIn
import Derived.Test.Qxb6613845aFmtPeaks
namespace Go.Proofs.Qxb6613845aFmt
open Go.RowKit Go.Shelf

attribute [local go_sem] Oper.semAt_some

/-- what a round must keep for the iterator: its two boxes -/
def KpC (Bs Bn : Nat) (A B : World) : Prop := B.heap[Bs]? = A.heap[Bs]? ∧ B.heap[Bn]? = A.heap[Bn]?
theorem KpC.trans {Bs Bn : Nat} {A B C : World} (h : KpC Bs Bn A B) (k : KpC Bs Bn B C) : KpC Bs Bn A C := ⟨k.1.trans h.1, k.2.trans h.2⟩
theorem KpC.refl (Bs Bn : Nat) (A : World) : KpC Bs Bn A A := ⟨rfl, rfl⟩
theorem KpC.cell {Bs Bn : Nat} {A B : World} (h : KpC Bs Bn A B) {v u : Value} (h1 : A.cell? ⟨Bs, 0, none⟩ = some v) (h2 : A.cell? ⟨Bn, 0, none⟩ = some u) : B.cell? ⟨Bs, 0, none⟩ = some v ∧ B.cell? ⟨Bn, 0, none⟩ = some u := by
  refine ⟨?_, ?_⟩
  · rw [← h1]; simp only [World.cell?, h.1]
  · rw [← h2]; simp only [World.cell?, h.2]

theorem take_finRange (m k : Nat) (hk : k < m) : (List.finRange m).take (k + 1) = (List.finRange m).take k ++ [⟨k, hk⟩] := by
  rw [List.take_add_one, List.getElem?_eq_getElem (by simpa using hk)]
  simp

set_option maxRecDepth 100000 in
set_option maxHeartbeats 1000000 in
theorem chunk1_in (F : Fence) (n : Nat) (h26 : F.fn 26) (hro : F.round = none) (hn : 1 ≤ n) (l Bs Bn b m : Nat) (a : Option Addr) (ha : 0 < m → a = some ⟨b, 0, none⟩) (hm : m ≤ 32768) (J Jx : List (Fin m) → World → Prop)
    (hY : ∀ pre (x : Fin m) W, J pre W → pre.length < m → YieldAt F (n - 1) Tryf.prog l #[.slice (some ⟨b, x.val * 32, none⟩) 32 32] W fun e W' =>
      (e = .returned (.bool true) ∧ J (pre ++ [x]) W' ∧ KpC Bs Bn W W') ∨ (e = .returned (.bool false) ∧ Jx (pre ++ [x]) W'))
    (W : World) (hBs : W.cell? ⟨Bs, 0, none⟩ = some (.slice a (m * 32) (m * 32))) (hBn : W.cell? ⟨Bn, 0, none⟩ = some (.int .i64 32)) (hdr : ∀ pre W q, J pre W → J pre (W.drewN q)) (h0 : J [] W) :
    CallsIn F n Tryf.prog 26 #[.func (.yield l) #[] #[], .pointer (some ⟨Bs, 0, none⟩), .pointer (some ⟨Bn, 0, none⟩)] W fun e W' => (∃ v, e = .returned v) ∧
      ((∃ ys, ys = List.finRange m ∧ J ys W') ∨ (∃ pre, True ∧ Jx pre W')) := by
  refine callsIn_of_wp Tryf.func26 rfl h26 ?_ hro
  simp only [Tryf.ntmps26, List.size_toArray, List.length_cons, List.length_nil, Nat.reduceAdd, Nat.reduceSub, Array.replicate_succ, Array.replicate_zero, List.push_toArray, List.append_toArray, List.nil_append, List.cons_append]
  gi_wp2
  gi_loopw [4] (fun i wr => ∃ k : Nat, k ≤ m ∧ i = .int .i64 ((k * 32 : Nat) : Int) ∧ J ((List.finRange m).take k) wr ∧ KpC Bs Bn W wr)
    (fun i _ => m * 32 - (intOf i).toNat)
  case atStart => exact ⟨0, Nat.zero_le _, rfl, by simpa using h0, KpC.refl _ _ _⟩
  case round =>
    obtain ⟨k, hk, rfl, hJs, hnx⟩ := hrel
    obtain ⟨hs, hb⟩ := hnx.cell hBs hBn
    by_cases hlt : k < m
    · obtain rfl := ha (by omega)
      clear ha
      gi_wp2
      have hmin : (32 : Int) ≤ ((m * 32 - k * 32 : Nat) : Int) := by omega
      refine wpIn_region_quiet_lit hro (by kernel_rfl) (by kernel_rfl) ?_
      repeat (gi_big_quiet_step (fail))
      refine wpQuietIn_nil ?_
      intro _ hw'
      obtain ⟨nq, hw''⟩ := hw'
      subst hw''
      obtain ⟨fn, tmps, assign, body, hy, hR⟩ := hY _ ⟨k, hlt⟩ (wr.drewN nq) (hdr _ _ nq hJs) (by simp; omega)
      dsimp only at hy
      gi_wp2
      refine hR.mono ?_
      rintro e W3 (⟨rfl, hJ3, hk3⟩ | ⟨rfl, hJx3⟩)
      · obtain ⟨hs3, hb3⟩ := hk3.cell (v := .slice (some ⟨b, 0, none⟩) (m * 32) (m * 32)) (u := .int .i64 32) hs hb
        gi_wp2
        go_roundw
        case rel => exact ⟨k + 1, by omega, by simp; omega, by rw [take_finRange m k hlt]; exact hJ3, hnx.trans ⟨hk3.1, hk3.2⟩⟩
        case measure => simp [intOf]; omega
      · gi_wp2
        refine bodyPost_ret (results_none rfl _ _ _) rfl ?_
        exact ⟨⟨_, rfl⟩, .inr ⟨_, trivial, hJx3⟩⟩
    · obtain rfl : k = m := by omega
      gi_wp2
      go_end0
      exact ⟨⟨_, rfl⟩, .inl ⟨_, rfl, by rw [List.take_of_length_le (by simp)] at hJs; exact hJs⟩⟩

set_option maxHeartbeats 1000000 in
theorem chunk_in (F : Fence) (n : Nat) (h19 : F.fn 19) (hro : F.round = none) (a : Option Addr) (len cap : Nat) (w : World) :
    CallsIn F n Tryf.prog 19 #[.slice a len cap, .int .i64 32] w fun e w' => e = .returned (.func (.func 26) #[] #[.pointer (some ⟨w.heap.size, 0, none⟩), .pointer (some ⟨w.heap.size + 1, 0, none⟩)]) ∧ w' = (w.alloc (.cells #[.slice a len cap] 22)).alloc (.cells #[.int .i64 32] 3) := by
  refine callsIn_of_wp Tryf.func19 rfl h19 ?_ hro
  simp only [Tryf.ntmps19, List.size_toArray, List.length_cons, List.length_nil, Nat.reduceAdd, Nat.reduceSub, Array.replicate_succ, Array.replicate_zero, List.push_toArray, List.append_toArray, List.nil_append, List.cons_append]
  gi_wp2
  go_ret
  exact ⟨rfl, rfl⟩

theorem chunk_stops (F : Fence) (n : Nat) (h26 : F.fn 26) (hro : F.round = none) (hn : 1 ≤ n) (Bs Bn b m : Nat) (a : Option Addr) (ha : 0 < m → a = some ⟨b, 0, none⟩) (hm : m ≤ 32768) (w : World) (hBs : Bs < w.heap.size) (hBn : Bn < w.heap.size)
    (hs : w.cell? ⟨Bs, 0, none⟩ = some (.slice a (m * 32) (m * 32))) (hc : w.cell? ⟨Bn, 0, none⟩ = some (.int .i64 32)) :
    SeqStopsK F n Tryf.prog 26 #[.pointer (some ⟨Bs, 0, none⟩), .pointer (some ⟨Bn, 0, none⟩)] (fun x : Fin m => #[.slice (some ⟨b, x.val * 32, none⟩) 32 32]) (KpC Bs Bn) (fun ys => ys = List.finRange m) (fun _ => True) m w := fun l J Jx W hW hJ _ hY h0 =>
  chunk1_in F n h26 hro hn l Bs Bn b m a ha hm J Jx hY W ((hW.cell (p := ⟨Bs, 0, none⟩) hBs).trans hs) ((hW.cell (p := ⟨Bn, 0, none⟩) hBn).trans hc)
    (fun pre W' q hj => hJ pre W' (W'.drewN q) none hj ⟨rfl, rfl, rfl, Nat.le_refl _, fun _ _ _ => rfl⟩ (fun r e => by cases e)) h0
end Go.Proofs.Qxb6613845aFmt
