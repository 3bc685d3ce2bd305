/- incomplete at a joiner that has no map yet. -/
import Derived.Test.Qxb6613072aSpec
namespace Go.Proofs.Qxb6613072a
open Go.RowKit Go.Maps Go.Sort

theorem wpList_range_nil (w : World) {ops : Array Oper} {rest : List Oper} {o : Oper} {a : Act} {Q : Exit → Act → World → Prop} (hg : o.guard = none) (m : Operand) (t k e : TypeId) (hop : o.op = Op.range t m) (ht : Try.prog.underlying t = some (.map k e)) (hm : a.eval m = .map none)
    (hK : wpList Try.prog ops Q rest (a.put o.dst (.pointer (some ⟨w.heap.size, 0, none⟩))) (w.alloc (.mapIter none 0 #[] 0))) : wpList Try.prog ops Q (o :: rest) a w := by
  refine wpList_plain hg fun K' hK' => ?_
  unfold Oper.wp
  simp [execOp, hop, hm, run_range_nilMap w t k e ht, Result.andThen]
  exact hK' _ _ hK
theorem wpList_next_nil (w : World) {ops : Array Oper} {rest : List Oper} {o : Oper} {a : Act} {Q : Exit → Act → World → Prop} (hg : o.guard = none) (it : Operand) (hop : o.op = Op.next it false) (hit : a.eval it = .pointer (some ⟨w.heap.size, 0, none⟩))
    (hK : wpList Try.prog ops Q rest (a.put o.dst (.tuple #[.bool false])) (w.alloc (.mapIter none 0 #[] 0))) : wpList Try.prog ops Q (o :: rest) a (w.alloc (.mapIter none 0 #[] 0)) := by
  refine wpList_plain hg fun K' hK' => ?_
  unfold Oper.wp
  simp [execOp, hop, hit, run_next_nilMap w, Result.andThen]
  exact hK' _ _ hK

theorem info45n : (Try.prog.info? 45).map (fun i => (i.zero, i.size, i.bytes)) = some (some (.agg #[.int .u8 0, .string ⟨#[]⟩, .int .u8 0, .int .i64 0, .int .i64 0, .slice none 0 0, .int .u64 0, .int .i64 0, .pointer none]), 9, 96) := by kernel_rfl

set_option maxRecDepth 100000 in
set_option maxHeartbeats 2000000 in
theorem inc29_nil {M : Nat → HM} {Hd : Nat → Prop} (jb tb : Nat) (y : Int) (w : World) (km : w.cell? ⟨jb, 0, none⟩ = some (.map none)) (hno : ∀ i, ¬ Hd i) :
    Calls Try.prog 29 #[.pointer (some ⟨jb, 0, none⟩), .func (.func 32) #[] #[.pointer (some ⟨tb, 0, none⟩)]] w fun e w' => ∃ lb L c ix, e = .returned (.slice (some ⟨lb, 0, none⟩) L c) ∧ Hid (IncOut M Hd y w L lb ix w') := by
  have HNO : Hid (∀ i, ¬ Hd i) := hno
  clear hno
  have hj : jb < w.heap.size := block_lt_of_cell km
  have hj1 : jb < w.heap.size + 1 := by omega
  obtain ⟨j0, hj0, hjz0, hjz1, hjz2⟩ := info_parts info45n
  go_enter Try.func29, Try.ntmps29
  go_wp2_with (first | (at_range; refine wpList_range_nil _ rfl _ 52 78 63 rfl Try.underlying52 rfl ?_))
  simp only [Act.put, List.setIfInBounds_toArray, List.set_cons_succ, List.set_cons_zero]
  have k1 : ((w.alloc (Obj.cells #[Value.pointer (some { block := jb, off := 0 })] 30)).alloc (Obj.cells #[Value.slice none 0 0] 86)).cell? ⟨w.heap.size + 1, 0, none⟩ = some (.slice none 0 0) := by simp
  have hk1 : w.heap.size + 1 < ((w.alloc (Obj.cells #[Value.pointer (some { block := jb, off := 0 })] 30)).alloc (Obj.cells #[Value.slice none 0 0] 86)).heap.size := by simp
  have HG0 : Hid (w.grownBy ((w.alloc (Obj.cells #[Value.pointer (some { block := jb, off := 0 })] 30)).alloc (Obj.cells #[Value.slice none 0 0] 86)) none) := gb_alloc (gb_alloc (gb_refl _ _) _) _
  generalize ((w.alloc (Obj.cells #[Value.pointer (some { block := jb, off := 0 })] 30)).alloc (Obj.cells #[Value.slice none 0 0] 86)) = W0 at *
  clear km hj hj1
  go_loopw [] (fun wr => wr = W0.alloc (.mapIter none 0 #[] 0)) (fun _ => 0)
  case atStart => rfl
  case round =>
    subst hrel
    go_wp2_with (first
      | (at_next; refine wpList_next_nil W0 rfl _ rfl rfl ?_)
      | (go_at_call 39
         refine (sort_few none 0 0 (by omega) _ _).mono ?_
         rintro e w2 ⟨rfl, hg⟩
         have kk2 : w2.cell? ⟨w.heap.size + 1, 0, none⟩ = some (.slice none 0 0) := (gb_trans (gb_alloc (gb_refl _ _) _) hg).cell k1 (by simp)
         have HG2 : Hid (w.grownBy w2 none) := gb_trans (gb_alloc HG0.out _) hg
         clear hg k1 hk1)
      | (at_make
         refine wpList_make_full _ rfl _ _ 32 rfl w2.heap.size 45 j0 _ 9 Try.underlying32 hj0 hjz0 hjz1 _ _ _ _ 0 rfl rfl rfl rfl (by omega) (by unfold maxLen; omega) (Nat.le_refl _) ?_
         intro w4 hown4 hg4
         have HG4 : Hid (w.grownBy w4 none) := gb_trans HG2.out hg4
         have kk4 := hg4.cell kk2 (by simp)
         have HLB : Hid (w.heap.size ≤ w2.heap.size) := HG2.out.size
         clear hown4 hg4 kk2 HG2
         generalize w2.heap.size = lb at *))
    go_loopw [41] (fun i wr => i = .int .i64 0 ∧ wr = w4) (fun _ _ => 0)
    case atStart => exact ⟨rfl, rfl⟩
    case round =>
      obtain ⟨rfl, rfl⟩ := hrel
      go_wp2
      go_ret
      exact ⟨lb, 0, 0, fun _ => 0, rfl, HG4.out, Nat.zero_le _, ⟨fun t ht => by omega, fun i hi => absurd hi.1 (HNO.out i), fun s t hs ht => by omega⟩, HLB.out, fun t ht => by omega⟩
end Go.Proofs.Qxb6613072a
