/- (*Tree).Peaks: the rows of 32 bytes, one behind the other. -/
import Derived.Test.Qxb6613845aFmtBase
import Derived.Deep.WholeRow
namespace Go.Proofs.Qxb6613845aFmt
open Go.RowKit

/-- the k-th row of 32 bytes -/
def chunk (C : Nat → Int) (k : Nat) : List Value := (List.range 32).map fun j => Value.int .u8 (C (k * 32 + j))
/-- the first k rows -/
def rows (C : Nat → Int) (k : Nat) : List Value := (List.range (k * 32)).map fun j => Value.int .u8 (C j)
theorem chunk_len (C : Nat → Int) (k : Nat) : (chunk C k).length = 32 := by simp [chunk]
theorem chunk_get (C : Nat → Int) (k j : Nat) (hj : j < 32) : (chunk C k)[j]? = some (.int .u8 (C (k * 32 + j))) := by simp [chunk, hj]
theorem rows_succ (C : Nat → Int) (k : Nat) : rows C (k + 1) = rows C k ++ chunk C k := by
  unfold rows chunk
  rw [show (k + 1) * 32 = k * 32 + 32 by omega, List.range_add, List.map_append, List.map_map]
  rfl
theorem chunk_one (C : Nat → Int) (k : Nat) : ∀ u ∈ chunk C k, u.oneCell' = true := by
  intro u hu
  simp only [chunk, List.mem_map] at hu
  obtain ⟨j, _, rfl⟩ := hu
  rfl
theorem add_add (a : Addr) (i j : Nat) : (a.add i).add j = a.add (i + j) := by
  unfold Addr.add
  by_cases hi : i = 0 <;> by_cases hj : j = 0 <;> simp [hi, hj] <;> omega

theorem Tryf.size35 : (Tryf.prog.info? 35).map (·.size) = some 32 := by kernel_rfl
theorem load_chunk {w : World} {ad : Addr} {m k : Nat} {C : Nat → Int} (h : Bys w (some ad) (m * 32) C) (hk : k < m) : (Instr.loadAt 35 (.pointer (some (ad.add (k * 32))))).run Tryf.prog w = .ok (.agg (chunk C k).toArray) w := by
  have := run_loadCells_list (P := Tryf.prog) w (ad.add (k * 32)) (chunk C k) (fun j v hv => by
    have hj : j < 32 := by
      have := (List.getElem?_eq_some_iff.1 hv).1
      rwa [chunk_len] at this
    rw [chunk_get C k j hj] at hv
    obtain ⟨ad', e, hc⟩ := h (k * 32 + j) (by omega)
    obtain rfl := Option.some.inj e
    rw [add_add, hc]; exact hv)
  rw [chunk_len] at this
  have hs : (sizeOf 35).run Tryf.prog w = .ok 32 w := by kernel_rfl
  simp only [Instr.loadAt, Instr.sureAddr, Sem.run_bind, Sem.run_pure, Result.andThen, loadVar, isAgg, run_underlying Tryf.underlying35, if_true, hs, this]

theorem wpList_loadAt {P : Program} (w : World) {ops : Array Oper} {rest : List Oper} {o : Oper} {a : Act} {Q : Exit → Act → World → Prop} (hg : o.guard = none) (x : Operand) (t : TypeId) (hop : o.op = Op.load t x) (v : Value)
    (hrun : (Instr.loadAt t (a.eval x)).run P w = .ok v w) (h : wpList P ops Q rest (a.put o.dst v) w) : wpList P ops Q (o :: rest) a w := by
  refine wpList_plain hg fun K hK' => ?_
  unfold Oper.wp
  simp [execOp, hop, hrun, Result.andThen]
  exact hK' _ _ h
theorem wpList_storeAt {P : Program} (w w' : World) {ops : Array Oper} {rest : List Oper} {o : Oper} {a : Act} {Q : Exit → Act → World → Prop} (hg : o.guard = none) (x y : Operand) (t : TypeId) (hop : o.op = Op.store t x y)
    (hrun : (Instr.storeAt t (a.eval x) (a.eval y)).run P w = .ok () w') (hd : o.dst = none) (h : wpList P ops Q rest a w') : wpList P ops Q (o :: rest) a w := by
  refine wpList_plain hg fun K hK' => ?_
  unfold Oper.wp
  simp [execOp, hop, hrun, Result.andThen]
  refine hK' _ _ ?_
  rw [hd]; exact h
theorem store_chunk (C : Nat → Int) (k : Nat) (w : World) (c : Array Value) (hc : c.size = 32) : (Instr.storeAt 35 (.pointer (some ⟨w.heap.size, 0, none⟩)) (.agg (chunk C k).toArray)).run Tryf.prog (w.alloc (.cells c 35)) = .ok () (w.alloc (.cells (chunk C k).toArray 35)) := by
  refine run_storeAt_new (P := Tryf.prog) w 35 c (chunk C k).toArray (by rw [List.size_toArray, chunk_len]; exact Tryf.size35) (by rw [hc]; simp [chunk_len]) ?_
  rw [Array.all_eq_true]
  intro i hi
  have := chunk_one C k (chunk C k)[i] (List.getElem_mem (by simpa using hi))
  simpa using this

theorem chunk_new (C : Nat → Int) (k : Nat) (w : World) : ∀ j u, (chunk C k)[j]? = some u → (w.alloc (.cells (chunk C k).toArray 35)).cell? ((⟨w.heap.size, 0, none⟩ : Addr).add j) = some u := by
  intro j u hu
  rw [add_new, cell_of_row _ _ j _ 35 (0, 0) (heap_alloc_last w _)]
  simpa using hu
theorem owns_bys {w : World} {B m : Nat} {C : Nat → Int} (h : w.ownsRow B 5 1 (.slice (some ⟨B, 0, none⟩) (m * 32) (m * 32)) (m * 32) (rows C m)) : Bys w (some ⟨B, 0, none⟩) (m * 32) C := by
  obtain ⟨_, hrow⟩ := h
  rcases hrow with ⟨h, _⟩ | ⟨g, c', cur, hv, _, hblk, _, _, hsz, hx⟩
  · cases h
  · obtain ⟨rfl, rfl⟩ : B = g ∧ m * 32 = c' := by simpa using hv
    intro i hi
    refine ⟨_, rfl, ?_⟩
    rw [add_new, cell_of_row _ _ i cur 5 (0, 0) hblk]
    have := congrArg (·[i]?) hx
    simp only [rows, Nat.mul_one] at this
    rw [List.getElem?_take_of_lt hi] at this
    simpa [hi] using this

set_option maxHeartbeats 1000000 in
set_option maxRecDepth 100000 in
theorem peaks_runs (tb : Nat) (a : Option Addr) (m cap : Nat) (C : Nat → Int) (hm : m ≤ 32768) (w : World) (ht : w.cell? ⟨tb, 1, none⟩ = some (.slice a m cap)) (hS : Bys w a (m * 32) C) :
    Calls Tryf.prog 10 #[.pointer (some ⟨tb, 0, none⟩)] w fun e w' => e = .returned (.slice (some ⟨w.heap.size, 0, none⟩) (m * 32) (m * 32)) ∧ Hid (Bys w' (some ⟨w.heap.size, 0, none⟩) (m * 32) C ∧ w.grownBy w' none) := by
  have HS : Hid (Bys w a (m * 32) C) := hS
  clear hS
  obtain ⟨i0, hi, hz0, hz1, hz2⟩ := info_parts Tryf.info5
  have HT : w.cell? ⟨tb, 1, none⟩ = some (.slice a m cap) := ht
  go_enter Tryf.func10, Tryf.ntmps10
  go_wp2_with (at_make; refine wpList_make_own _ rfl _ _ 22 rfl w.heap.size 5 i0 _ 1 Tryf.underlying22 hi hz0 hz1 _ _ _ (m * 32) rfl rfl (by go_num) (by rw [hz2]; omega) (by unfold maxLen; omega) (Nat.le_refl _) ?_; intro w1 hown hgrow; have ht1 := hgrow.cell HT (by simp))
  have HO : Hid (w1.ownsRow w.heap.size 5 1 (.slice (some ⟨w.heap.size, 0, none⟩) 0 (m * 32)) 0 []) := hown
  have HG : Hid (w.grownBy w1 none) := hgrow
  clear hown hgrow ht1
  go_loopw [3, 18] (fun s i wr => ∃ k : Nat, k ≤ m ∧ i = .int .i64 k ∧ s = .slice (some ⟨w.heap.size, 0, none⟩) (k * 32) (m * 32) ∧ Hid (wr.ownsRow w.heap.size 5 1 (.slice (some ⟨w.heap.size, 0, none⟩) (k * 32) (m * 32)) (k * 32) (rows C k) ∧ w.grownBy wr none)) (fun _ i _ => m - (intOf i).toNat)
  case atStart => exact ⟨0, Nat.zero_le _, rfl, by simp, by simpa [rows] using HO.out, HG.out⟩
  case round =>
    obtain ⟨k, hk, rfl, rfl, H⟩ := hrel
    by_cases hlt : k < m
    · obtain ⟨ad, rfl, _⟩ := HS.out (k * 32) (by omega)
      have hl := load_chunk (HS.out.grown H.out.2) hlt
      have hst := fun c hc => store_chunk C k wr c hc
      go_wp2_with (first | (refine wpList_loadAt _ rfl _ 35 rfl _ hl ?_) | (refine wpList_storeAt _ _ rfl _ _ 35 rfl (hst _ rfl) rfl ?_) | (at_builtin; refine wpList_append_fits _ rfl _ _ 22 rfl w.heap.size 5 i0 1 Tryf.underlying22 hi hz1 w.heap.size (k * 32) (m * 32) (rows C k) rfl (H.out.1.alloc _) ⟨wr.heap.size, 0, none⟩ 32 32 (chunk C k) rfl (chunk_len C k) (chunk_new C k wr) (chunk_one C k) (by omega) ?_; intro w2 hown hgrow; have O2 : Hid (w2.ownsRow w.heap.size 5 1 (.slice (some ⟨w.heap.size, 0, none⟩) (k * 32 + 32) (m * 32)) (k * 32 + 32) (rows C k ++ chunk C k)) := hown; have G2 : Hid ((wr.alloc (.cells (chunk C k).toArray 35)).grownBy w2 (some w.heap.size)) := hgrow; clear hown hgrow))
      go_roundw
      case rel =>
        refine ⟨k + 1, by omega, by go_num, by rw [show (k + 1) * 32 = k * 32 + 32 by omega], ?_, gb_later (gb_alloc H.out.2 _) G2.out (Nat.le_refl _)⟩
        rw [rows_succ, show (k + 1) * 32 = k * 32 + 32 by omega]
        exact O2.out
      case measure => simp [intOf]; omega
    · obtain rfl : k = m := by omega
      go_wp2
      go_ret
      exact ⟨rfl, owns_bys H.out.1, H.out.2⟩
end Go.Proofs.Qxb6613845aFmt
