/- LoadTree where it accepts. -/
import Derived.Test.Qxb6613845aFmtInv
import Derived.Great.BuildSlice
namespace Go.Proofs.Qxb6613845aFmt
open Go.RowKit Go.Shelf

attribute [local go_sem] Oper.semAt_some

/-- the rows that have come -/
def came {m : Nat} (C : Nat → Int) (pre : List (Fin m)) : List Value := pre.flatMap fun i => chunk C i.val

/-- between two rounds: the tree at block tb, its peaks a row of their own -/
def LoopI (m tb : Nat) (x : Int) (C : Nat → Int) (W0 : World) (pre : List (Fin m)) (W : World) : Prop :=
  ∃ v, W.rowIs tb 45 2 (fun j => if j = 1 then v else .int .i64 x) ∧ W.ownsRow W0.heap.size 35 32 v pre.length (came C pre) ∧ W0.grownBy W (some tb)

theorem came_snoc {m : Nat} (C : Nat → Int) (pre : List (Fin m)) (k : Fin m) : came C (pre ++ [k]) = came C pre ++ chunk C k.val := by simp [came]
theorem came_len {m : Nat} (C : Nat → Int) (pre : List (Fin m)) : (came C pre).length = pre.length * 32 := by
  induction pre with
  | nil => rfl
  | cons k r ih =>
    have : came C (k :: r) = chunk C k.val ++ came C r := by simp [came]
    rw [this, List.length_append, chunk_len, ih, List.length_cons]
    omega
theorem came_all (C : Nat → Int) (m : Nat) : came C (List.finRange m) = rows C m := by
  have key : ∀ k, k ≤ m → came C ((List.finRange m).take k) = rows C k := by
    intro k
    induction k with
    | zero => intro _; simp [came, rows]
    | succ k ih =>
      intro hk
      rw [take_finRange m k (by omega), came_snoc, ih (by omega), rows_succ]
  have := key m (Nat.le_refl _)
  rwa [List.take_of_length_le (by simp)] at this

theorem rowIs_two {W : World} {tb : Nat} {x v : Value} {t : TypeId} (h : W.heap[tb]? = some (.cells #[x, v] t (0, 0))) : W.rowIs tb t 2 (fun j => if j = 1 then v else x) :=
  ⟨_, h, rfl, fun i hi => by
    obtain rfl | rfl : i = 0 ∨ i = 1 := by omega
    · rfl
    · rfl⟩
theorem kept_row {W W' : World} {row : Option Nat} {k n : Nat} {t : TypeId} {f : Nat → Value} (h : W.rowIs k t n f) (hg : W.grownBy W' row) (hr : ∀ r, row = some r → ∃ o : Obj, W.heap[r]? = some o ∧ o.isCells = false) : W'.rowIs k t n f := by
  refine h.of_block (hg.block k h.lt ?_)
  intro e
  obtain ⟨o, ho, hc⟩ := hr k e.symm
  obtain ⟨c, hb, _⟩ := h
  rw [hb] at ho
  cases ho
  cases hc
theorem kept_block {W W' : World} {row : Option Nat} {k : Nat} {c : Array Value} {t : TypeId} {fz : Nat × Nat} (h : W.heap[k]? = some (.cells c t fz)) (hg : W.grownBy W' row) (hr : ∀ r, row = some r → ∃ o : Obj, W.heap[r]? = some o ∧ o.isCells = false) : W'.heap[k]? = some (.cells c t fz) := by
  rw [hg.block k (Array.getElem?_eq_some_iff.1 h).1 ?_]
  · exact h
  · intro e
    obtain ⟨o, ho, hc⟩ := hr k e.symm
    rw [h] at ho
    cases ho
    cases hc

theorem LoopI.own {m tb : Nat} {x : Int} {C : Nat → Int} {W0 : World} : OwnFrom W0.heap.size (LoopI m tb x C W0) := by
  rintro pre W W' row ⟨v, h1, ⟨hl, h2⟩, h3⟩ hg hr
  have hr' : ∀ r, row = some r → ∃ o : Obj, W.heap[r]? = some o ∧ o.isCells = false := fun r e => (hr r e).2
  refine ⟨v, kept_row h1 hg hr', ⟨hl, ?_⟩, ?_⟩
  · rcases h2 with h | ⟨g, cap, cur, a1, a2, a3, a4⟩
    · exact .inl h
    · exact .inr ⟨g, cap, cur, a1, a2, kept_block a3 hg hr', a4⟩
  · refine ⟨hg.os.trans h3.os, hg.tape.trans h3.tape, hg.output.trans h3.output, Nat.le_trans h3.size hg.size, fun i hi hn => ?_⟩
    rw [hg.block i (Nat.lt_of_lt_of_le hi h3.size) ?_, h3.block i hi hn]
    intro e
    have := (hr i e.symm).1
    omega

theorem four (w : World) (o0 o1 o2 o3 : Obj) : ((((w.alloc o0).alloc o1).alloc o2).alloc o3).heap[w.heap.size]? = some o0 ∧ ((((w.alloc o0).alloc o1).alloc o2).alloc o3).heap[w.heap.size + 1]? = some o1 ∧
    ((((w.alloc o0).alloc o1).alloc o2).alloc o3).heap[w.heap.size + 2]? = some o2 ∧ ((((w.alloc o0).alloc o1).alloc o2).alloc o3).heap[w.heap.size + 3]? = some o3 := by
  refine ⟨?_, ?_, ?_, ?_⟩
  · rw [Below.heap_alloc _ _ _ (by simp; omega), Below.heap_alloc _ _ _ (by simp; omega), Below.heap_alloc _ _ _ (by simp)]
    exact World.alloc_heap_new w o0
  · rw [Below.heap_alloc _ _ _ (by simp), Below.heap_alloc _ _ _ (by simp)]
    have := World.alloc_heap_new (w.alloc o0) o1
    rwa [World.size_alloc] at this
  · rw [Below.heap_alloc _ _ _ (by simp)]
    have := World.alloc_heap_new ((w.alloc o0).alloc o1) o2
    rwa [World.size_alloc, World.size_alloc] at this
  · have := World.alloc_heap_new (((w.alloc o0).alloc o1).alloc o2) o3
    rwa [World.size_alloc, World.size_alloc, World.size_alloc] at this

theorem kp_putObj {w : World} {Bs Bn : Nat} (h1 : Bs < w.heap.size) (h2 : Bn < w.heap.size) (W : World) (l : Nat) (o o' : Obj) (hl : w.heap.size ≤ l) (_ : W.heap[l]? = some o) (_ : o.isCells = false) (_ : o.isWalk = false) : KpC Bs Bn W (W.putObj l o') :=
  ⟨World.putObj_heap_other (by omega), World.putObj_heap_other (by omega)⟩

theorem Tryf.info35 : (Tryf.prog.info? 35).map (fun i => (i.zero, i.size, i.bytes)) = some (some (.agg (Array.replicate 32 (.int .u8 0))), 32, 32) := by kernel_rfl

/-- behind the append -/
def OwnAt (W1 : World) (N0 k : Nat) (C : Nat → Int) (v : Value) (n : Nat) (xs : List Value) (v' : Value) (w : World) : Prop :=
  w.ownsRow N0 35 32 v' (n + 1) (xs ++ chunk C k) ∧ (W1.alloc (.cells (chunk C k).toArray 35)).grownBy w v.ownBlock

/-- what holds when the operations with a mark have run -/
structure RF (W1 : World) (N0 tb b k : Nat) (C : Nat → Int) (v : Value) (n : Nat) (xs : List Value) (l0 l1 l2 l3 l4 l5 l6 l7 l8 l9 l10 l11 l12 : Bool) (u32 u33 u34 u35 u36 u37 u38 u39 u40 u41 u42 u43 : Value) (w : World) : Prop where
  f0 : l0 = true → u32 = .pointer (some ⟨tb, 0, none⟩)
  f1 : l1 = true → u33 = .pointer (some ⟨tb, 0, none⟩)
  f2 : l2 = true → u34 = .pointer (some ⟨tb, 0, none⟩)
  f3 : l3 = true → u35 = .pointer (some ⟨tb, 1, none⟩)
  f4 : l4 = true → u36 = v
  f5 : l5 = true → u37 = .slice (some ⟨b, k * 32, none⟩) 32 32
  f6 : l6 = true → u38 = .pointer (some ⟨b, k * 32, none⟩)
  f7 : l7 = true → u39 = .agg (chunk C k).toArray
  f8 : l8 = true → u40 = .slice (some ⟨W1.heap.size, 0, none⟩) 1 1
  f10 : l10 = true → u42 = .pointer (some ⟨tb, 0, none⟩)
  f11 : l11 = true → u43 = .pointer (some ⟨tb, 1, none⟩)
  g9 : l9 = true → l8 = true ∧ l4 = true
  g12 : l12 = true → l9 = true
  k0 : ∀ i, i < N0 → i ≠ tb → w.heap[i]? = W1.heap[i]?
  k1 : l12 = false → w.heap[tb]? = W1.heap[tb]?
  s0 : l8 = false → w = W1
  s1 : l8 = true → l9 = false → w = W1.alloc (.cells (chunk C k).toArray 35)
  s2 : l9 = true → l12 = false → OwnAt W1 N0 k C v n xs u41 w
  s3 : l12 = true → ∃ v' w2, OwnAt W1 N0 k C v n xs v' w2 ∧ w2.heap[tb]? = W1.heap[tb]? ∧ w = w2.setCell ⟨tb, 1, none⟩ v'

/-- the region's invariant: which operations have run, what the frame holds -/
def RI (vb : Nat) (W1 : World) (N0 tb b k : Nat) (C : Nat → Int) (v : Value) (n : Nat) (xs : List Value) (L : Array Bool) (act : Act) (w : World) : Prop :=
  ∃ (t0 t1 t2 t3 t4 t5 t8 t9 t10 t11 t12 t13 t14 t15 t16 t17 t18 t19 t20 t21 t22 t23 t24 t25 t26 t27 t28 t29 t30 t31 t44 : Value) (l0 l1 l2 l3 l4 l5 l6 l7 l8 l9 l10 l11 l12 : Bool) (u32 u33 u34 u35 u36 u37 u38 u39 u40 u41 u42 u43 : Value), L = #[l0, l1, l2, l3, l4, l5, l6, l7, l8, l9, l10, l11, l12] ∧ act = { tmps := #[t0, t1, t2, t3, t4, t5, .pointer (some ⟨vb, 0, none⟩), .slice (some ⟨b, k * 32, none⟩) 32 32, t8, t9, t10, t11, t12, t13, t14, t15, t16, t17, t18, t19, t20, t21, t22, t23, t24, t25, t26, t27, t28, t29, t30, t31, u32, u33, u34, u35, u36, u37, u38, u39, u40, u41, u42, u43, t44], defers := [] } ∧ RF W1 N0 tb b k C v n xs l0 l1 l2 l3 l4 l5 l6 l7 l8 l9 l10 l11 l12 u32 u33 u34 u35 u36 u37 u38 u39 u40 u41 u42 u43 w

theorem owns_bys35 {w : World} {B m : Nat} {v : Value} {C : Nat → Int} (h : w.ownsRow B 35 32 v m (rows C m)) : ∃ a cap, v = .slice a m cap ∧ Bys w a (m * 32) C := by
  obtain ⟨_, hrow⟩ := h
  rcases hrow with ⟨rfl, rfl⟩ | ⟨g, cap, cur, rfl, _, hblk, _, _, hsz, hx⟩
  · exact ⟨none, 0, rfl, fun i hi => absurd hi (by omega)⟩
  · refine ⟨_, cap, rfl, fun i hi => ⟨_, rfl, ?_⟩⟩
    rw [add_new, cell_of_row _ _ i cur 35 (0, 0) hblk]
    have := congrArg (·[i]?) hx
    simp only [rows] at this
    rw [List.getElem?_take_of_lt hi] at this
    simpa [hi] using this

theorem fill_chunk (C : Nat → Int) (k : Nat) : Instr.fill (fun i => some (i * 32, 32)) ((Array.range (1 * 32)).map ((Value.agg (Array.replicate 32 (.int .u8 0))).cells[· % (Value.agg (Array.replicate 32 (.int .u8 0))).cells.size]!)) #[(0, Value.agg (chunk C k).toArray)].toList = some (chunk C k).toArray := by kernel_rfl
theorem build_chunk (C : Nat → Int) (k : Nat) (w : World) : (Instr.buildSlice 43 1 #[(0, .agg (chunk C k).toArray)]).run Tryf.prog w = .ok (.slice (some ⟨w.heap.size, 0, none⟩) 1 1) (w.alloc (.cells (chunk C k).toArray 35)) := by
  obtain ⟨i0, hi, hz0, hz1, _⟩ := info_parts Tryf.info35
  exact run_buildSlice w 43 35 1 _ _ i0 _ Tryf.underlying43 hi hz0 (by rw [hz1]; decide) (by rw [hz1]; decide) (by rw [hz1]; exact fill_chunk C k)

theorem ordered {ops : Array Oper} (h : ((List.range ops.size).all fun j => match ops[j]? with | some o => o.after.all fun e => decide (e.on < j) | none => true) = true) : ∀ (j : Nat) (o : Oper), ops[j]? = some o → ∀ e ∈ o.after, e.on < j := by
  intro j o ho e he
  have hj := (Array.getElem?_eq_some_iff.1 ho).1
  have := List.all_eq_true.1 h j (List.mem_range.2 hj)
  simp only [ho] at this
  have := Array.all_eq_true_iff_forall_mem.1 this e he
  simpa using this

theorem load_fin {m : Nat} {p : Fin m} {tb : Nat} {x : Int} {C : Nat → Int} {W0 W w2 : World} {pre : List (Fin m)} {v v' : Value}
    (h1 : W.rowIs tb 45 2 (fun j => if j = 1 then v else .int .i64 x)) (h2 : W.ownsRow W0.heap.size 35 32 v pre.length (came C pre)) (h3 : W0.grownBy W (some tb))
    (ho : w2.ownsRow W0.heap.size 35 32 v' (pre.length + 1) (came C pre ++ chunk C p.val)) (hgw : (W.drew.alloc (.cells (chunk C p.val).toArray 35)).grownBy w2 v.ownBlock) (ht2 : w2.heap[tb]? = W.heap[tb]?)
    (hk : ∀ i, i < W0.heap.size → i ≠ tb → (w2.setCell ⟨tb, 1, none⟩ v').heap[i]? = W.heap[i]?) (htb : tb + 4 = W0.heap.size) :
    KeepsFrom W0.heap.size W (w2.setCell ⟨tb, 1, none⟩ v') ∧ KpC (tb + 2) (tb + 3) W (w2.setCell ⟨tb, 1, none⟩ v') ∧ LoopI m tb x C W0 (pre ++ [p]) (w2.setCell ⟨tb, 1, none⟩ v') := by
  have hr2 : w2.rowIs tb 45 2 (fun j => if j = 1 then v else .int .i64 x) := h1.of_block ht2
  refine ⟨?_, ⟨hk _ (by omega) (by omega), hk _ (by omega) (by omega)⟩, v', ?_, ?_, ?_⟩
  · have k1 : KeepsOthers W (W.drew.alloc (.cells (chunk C p.val).toArray 35)) := (KeepsOthers.drew W).trans (KeepsOthers.alloc _ _)
    have k2 : KeepsOthers (W.drew.alloc (.cells (chunk C p.val).toArray 35)) w2 := KeepsOthers.of_grownBy hgw (fun j o e hj => by
      rcases h2.2 with ⟨rfl, _⟩ | ⟨g, cap, cur, rfl, _, hgb, _⟩
      · cases e
      · cases e
        have : (W.drew.alloc (.cells (chunk C p.val).toArray 35)).heap[g]? = some (.cells cur 35 (0, 0)) := (Below.heap_alloc _ _ _ (Array.getElem?_eq_some_iff.1 hgb).1).trans hgb
        rw [this] at hj
        cases hj
        rfl)
    exact ((k1.trans k2).trans (KeepsOthers.setCell _ _ _)).from _
  · exact (hr2.set 1 v').congr (fun i _ => by by_cases e : i = 1 <;> simp [e])
  · rw [came_snoc, List.length_append]
    refine ho.kept (w' := w2.setCell ⟨tb, 1, none⟩ v') (row := some tb) (gb_setCell (gb_refl _ _) (.inr rfl) _) ?_
    obtain ⟨g, cap, rfl⟩ := ownsRow_succ ho
    refine .inr ?_
    have hlt := (ho.lt g rfl).1
    intro e
    have e' : g = tb := by simpa [Value.ownBlock] using e
    omega
  · have hs : W.heap.size ≤ w2.heap.size := by have := hgw.size; simp at this; omega
    refine ⟨?_, ?_, ?_, ?_, fun i hi hn => ?_⟩
    · exact hgw.os.trans h3.os
    · exact hgw.tape.trans h3.tape
    · exact hgw.output.trans h3.output
    · have := h3.size
      simp [World.setCell]
      omega
    · rw [hk i hi (fun e => hn (by rw [e]))]
      exact h3.block i hi hn

set_option maxRecDepth 100000 in
set_option maxHeartbeats 2000000 in
theorem load_in (x : Nat) (hx : x < 9223372036854775808) (m : Nat) (hm : m = ones 64 x) (a : Option Addr) (b : Nat) (ha : 0 < m → a = some ⟨b, 0, none⟩) (C : Nat → Int) (w : World) (hb' : 0 < m → b < w.heap.size) (hS : Bys w a (m * 32) C) :
    CallsIn Fence.wide 3 Tryf.prog 8 #[.int .i64 (x : Int), .slice a (m * 32) (m * 32)] w fun e w' => ∃ tb a' cap', e = .returned (.tuple #[.pointer (some ⟨tb, 0, none⟩), .nilIface]) ∧ w'.cell? ⟨tb, 1, none⟩ = some (.slice a' m cap') ∧ Hid (Bys w' a' (m * 32) C ∧ w.grownBy w' none) := by
  have HS : Hid (Bys w a (m * 32) C) := hS
  have HA : Hid (0 < m → a = some ⟨b, 0, none⟩) := ha
  have HB : Hid (0 < m → b < w.heap.size) := hb'
  clear hb'
  have hm64 : m ≤ 64 := by rw [hm]; exact ones_le 64 x
  have hoc : ∀ W, Calls Tryf.prog 17 #[.int .u64 (x : Int)] W fun e w' => e = .returned (.int .i64 (m : Nat)) ∧ W = w' := fun W => by rw [hm]; exact (oc64 x (by omega) W).mono fun e w' h => ⟨h.1, h.2.symm⟩
  clear hS ha hm
  refine callsIn_of_wp_marks Tryf.func8 rfl trivial ?_ rfl
  simp only [Tryf.ntmps8, List.size_toArray, List.length_cons, List.length_nil, Nat.reduceAdd, Nat.reduceSub, Array.replicate_succ, Array.replicate_zero, List.push_toArray, List.append_toArray, List.nil_append, List.cons_append]
  gi_wp2_with (first | (refine ⟨trivial, ?_⟩; gi_at_call 17; refine (callsIn_wide.2 (hoc _)).mono ?_; rintro e w' ⟨rfl, rfl⟩) | (refine ⟨trivial, ?_⟩; gi_at_call 19; refine (chunk_in Fence.wide _ trivial rfl _ _ _ _).mono ?_; rintro e w' ⟨rfl, rfl⟩))
  obtain ⟨W0, hW0⟩ : ∃ W0, ((((w.alloc (.cells #[.int .i64 (x : Int), .slice none 0 0] 45)).alloc (.cells #[.pointer (some ⟨w.heap.size, 0, none⟩)] 27)).alloc (.cells #[.slice a (m * 32) (m * 32)] 22)).alloc (.cells #[.int .i64 32] 3)) = W0 := ⟨_, rfl⟩
  rw [hW0]
  have hsz : W0.heap.size = w.heap.size + 4 := by rw [← hW0]; simp
  have hg0 : w.grownBy W0 none := by rw [← hW0]; exact gb_alloc (gb_alloc (gb_alloc (gb_alloc (gb_refl _ _) _) _) _) _
  obtain ⟨h45, h27, hcs, hcn⟩ : W0.heap[w.heap.size]? = some (.cells #[.int .i64 (x : Int), .slice none 0 0] 45 (0, 0)) ∧ W0.heap[w.heap.size + 1]? = some (.cells #[.pointer (some ⟨w.heap.size, 0, none⟩)] 27 (0, 0)) ∧ W0.heap[w.heap.size + 2]? = some (.cells #[.slice a (m * 32) (m * 32)] 22 (0, 0)) ∧ W0.heap[w.heap.size + 3]? = some (.cells #[.int .i64 32] 3 (0, 0)) := by
    rw [← hW0]; exact four w _ _ _ _
  replace hcs : W0.cell? ⟨w.heap.size + 2, 0, none⟩ = some (.slice a (m * 32) (m * 32)) := by rw [cell_of_row _ _ 0 _ 22 (0, 0) hcs]; rfl
  replace hcn : W0.cell? ⟨w.heap.size + 3, 0, none⟩ = some (.int .i64 32) := by rw [cell_of_row _ _ 0 _ 3 (0, 0) hcn]; rfl
  clear hW0
  refine wpIn_rangeFunc_ownG (F := Fence.wide) rfl (by decide) (gf := 26) (lb := #[.pointer (some ⟨w.heap.size + 2, 0, none⟩), .pointer (some ⟨w.heap.size + 3, 0, none⟩)]) rfl trivial (enters_of Tryf.func26 (by kernel_rfl) rfl)
    (chunk_stops Fence.wide 2 trivial rfl (by decide) (w.heap.size + 2) (w.heap.size + 3) b m a HA.out (by omega) W0 (by omega) (by omega) hcs hcn) KpC.trans (kp_putObj (by omega) (by omega)) (Below.refl _ _) (fun _ => rfl)
    (LoopI m w.heap.size x C W0) (fun _ _ _ => False) LoopI.own (fun _ _ _ _ _ hs _ _ => hs)
    ⟨_, rowIs_two h45, World.ownsRow_nil _ _ _ _, gb_refl _ _⟩
    (fun p => { tmps := #[.int .i64 (x : Int), .slice a (m * 32) (m * 32), undef, undef, .pointer none, .nilIface, .pointer (some ⟨w.heap.size + 1, 0, none⟩), .slice (some ⟨b, p.val * 32, none⟩) 32 32, .int .i64 (x : Int), .bool (decide ((x : Int) < 0)), .bool (decide ((x : Int) < 0)), .slice a (m * 32) (m * 32), .int .i64 ((m : Int) * 32), .int .i64 (x : Int), .int .u64 (x : Int), .int .i64 (m : Int), .int .i64 ((m : Int) * 32), .bool false, .bool (decide ((x : Int) < 0)), undef, undef, undef, undef, undef, undef, undef, .int .i64 (x : Int), .agg #[.int .i64 (x : Int), .slice none 0 0], .pointer (some ⟨w.heap.size, 0, none⟩), .slice a (m * 32) (m * 32), .func (.func 26) #[] #[.pointer (some ⟨w.heap.size + 1 + 1, 0, none⟩), .pointer (some ⟨w.heap.size + 1 + 1 + 1, 0, none⟩)], .slice (some ⟨b, p.val * 32, none⟩) 32 32, undef, undef, undef, undef, undef, undef, undef, undef, undef, undef, undef, undef, undef], defers := [] }) ?assign ?body ?done ?stop
  case assign =>
    intro l p W K hK
    gi_wp2
    exact hK
  case body =>
    rintro l pre p W ⟨v, h1, h2, h3⟩ hlt
    have hp := p.isLt
    have ea := HA.out (by omega)
    have hb := HB.out (by omega)
    have hsrc : Bys W (some ⟨b, 0, none⟩) (m * 32) C := by
      rw [← ea]
      intro i hi
      obtain ⟨ad, e, hc⟩ := HS.out i hi
      refine ⟨ad, e, ?_⟩
      rw [ea] at e
      cases e
      rw [add_new] at hc ⊢
      have hc0 := hg0.cell hc (by simp)
      exact h3.cell hc0 (by simp; omega)
    have hv27 : W.heap[w.heap.size + 1]? = some (.cells #[.pointer (some ⟨w.heap.size, 0, none⟩)] 27 (0, 0)) := (h3.block _ (by omega) (by simp)).trans h27
    gi_wp2
    refine wpIn_region_any (by kernel_rfl) ?_
    change wpAnyIn _ _ _ _ _ _ _ _ _ (World.drew _)
    refine wpAnyIn_inv (RI (w.heap.size + 1) W.drew W0.heap.size w.heap.size b p.val C v pre.length (came C pre)) ?size ?ord ?step ?fin _ _ _ _ ?start (by decide)
    case size =>
      rintro L act w' ⟨t0, t1, t2, t3, t4, t5, t8, t9, t10, t11, t12, t13, t14, t15, t16, t17, t18, t19, t20, t21, t22, t23, t24, t25, t26, t27, t28, t29, t30, t31, t44, l0, l1, l2, l3, l4, l5, l6, l7, l8, l9, l10, l11, l12, u32, u33, u34, u35, u36, u37, u38, u39, u40, u41, u42, u43, rfl, rfl, _⟩
      rfl
    case ord => exact ordered (by kernel_rfl)
    case start =>
      refine ⟨_, _, _, _, _, _, _, _, _, _, _, _, _, _, _, _, _, _, _, _, _, _, _, _, _, _, _, _, _, _, _, _, _, _, _, _, _, _, _, _, _, _, _, _, _, _, _, _, _, _, _, _, _, _, _, _, rfl, rfl, ?_⟩
      constructor <;> simp
    case fin =>
      rintro L act w' ⟨t0, t1, t2, t3, t4, t5, t8, t9, t10, t11, t12, t13, t14, t15, t16, t17, t18, t19, t20, t21, t22, t23, t24, t25, t26, t27, t28, t29, t30, t31, t44, l0, l1, l2, l3, l4, l5, l6, l7, l8, l9, l10, l11, l12, u32, u33, u34, u35, u36, u37, u38, u39, u40, u41, u42, u43, rfl, rfl, H⟩ hall
      have e12 := hall 12 (by decide)
      obtain rfl : l12 = true := by simpa using e12
      obtain ⟨v', w2, ⟨ho, hgw⟩, ht2, rfl⟩ := H.s3 rfl
      exact load_fin h1 h2 h3 ho hgw ht2 H.k0 (by omega)
    case step =>
      rintro L act w' ⟨t0, t1, t2, t3, t4, t5, t8, t9, t10, t11, t12, t13, t14, t15, t16, t17, t18, t19, t20, t21, t22, t23, t24, t25, t26, t27, t28, t29, t30, t31, t44, l0, l1, l2, l3, l4, l5, l6, l7, l8, l9, l10, l11, l12, u32, u33, u34, u35, u36, u37, u38, u39, u40, u41, u42, u43, rfl, rfl, H⟩ i hi
      obtain ⟨hun, o, ho, hdep⟩ := mem_ready.1 hi
      have hi13 : i < 13 := (Array.getElem?_eq_some_iff.1 ho).1
      obtain rfl | rfl | rfl | rfl | rfl | rfl | rfl | rfl | rfl | rfl | rfl | rfl | rfl : i = 0 ∨ i = 1 ∨ i = 2 ∨ i = 3 ∨ i = 4 ∨ i = 5 ∨ i = 6 ∨ i = 7 ∨ i = 8 ∨ i = 9 ∨ i = 10 ∨ i = 11 ∨ i = 12 := by omega
      all_goals (simp at ho; subst ho; simp [Region.binds] at hun hdep; subst hun)
      · have hc : w'.cell? ⟨w.heap.size + 1, 0, none⟩ = some (.pointer (some ⟨w.heap.size, 0, none⟩)) := by rw [cell_of_row _ _ 0 _ 27 (0, 0) ((H.k0 _ (by omega) (by omega)).trans hv27)]; rfl
        exact wpOpIn_val rfl rfl rfl (fun c h => by cases h) (v := .pointer (some ⟨w.heap.size, 0, none⟩)) (w' := w') (by go_simp) ⟨_, _, _, _, _, _, _, _, _, _, _, _, _, _, _, _, _, _, _, _, _, _, _, _, _, _, _, _, _, _, _, _, _, _, _, _, _, _, _, _, _, _, _, _, _, _, _, _, _, _, _, _, _, _, _, _, rfl, rfl, { H with f0 := fun _ => rfl }⟩
      · have hc : w'.cell? ⟨w.heap.size + 1, 0, none⟩ = some (.pointer (some ⟨w.heap.size, 0, none⟩)) := by rw [cell_of_row _ _ 0 _ 27 (0, 0) ((H.k0 _ (by omega) (by omega)).trans hv27)]; rfl
        exact wpOpIn_val rfl rfl rfl (fun c h => by cases h) (v := .pointer (some ⟨w.heap.size, 0, none⟩)) (w' := w') (by go_simp) ⟨_, _, _, _, _, _, _, _, _, _, _, _, _, _, _, _, _, _, _, _, _, _, _, _, _, _, _, _, _, _, _, _, _, _, _, _, _, _, _, _, _, _, _, _, _, _, _, _, _, _, _, _, _, _, _, _, rfl, rfl, { H with f1 := fun _ => rfl }⟩
      · subst hdep
        obtain rfl := H.f1 rfl
        exact wpOpIn_val rfl rfl rfl (fun c h => by cases h) (v := .pointer (some ⟨w.heap.size, 0, none⟩)) (w' := w') (by go_simp) ⟨_, _, _, _, _, _, _, _, _, _, _, _, _, _, _, _, _, _, _, _, _, _, _, _, _, _, _, _, _, _, _, _, _, _, _, _, _, _, _, _, _, _, _, _, _, _, _, _, _, _, _, _, _, _, _, _, rfl, rfl, { H with f2 := fun _ => rfl }⟩
      · subst hdep
        obtain rfl := H.f2 rfl
        exact wpOpIn_val rfl rfl rfl (fun c h => by cases h) (v := .pointer (some ⟨w.heap.size, 1, none⟩)) (w' := w') (by go_simp) ⟨_, _, _, _, _, _, _, _, _, _, _, _, _, _, _, _, _, _, _, _, _, _, _, _, _, _, _, _, _, _, _, _, _, _, _, _, _, _, _, _, _, _, _, _, _, _, _, _, _, _, _, _, _, _, _, _, rfl, rfl, { H with f3 := fun _ => rfl }⟩
      · subst hdep
        obtain rfl := H.f3 rfl
        obtain rfl : l9 = false := by cases l9 with | false => rfl | true => cases (H.g9 rfl).2
        obtain rfl : l12 = false := by cases l12 with | false => rfl | true => cases H.g12 rfl
        have hc : w'.cell? ⟨w.heap.size, 1, none⟩ = some v := by simpa using (h1.of_block (H.k1 rfl)).cell (i := 1) (by omega)
        exact wpOpIn_val rfl rfl rfl (fun c h => by cases h) (v := v) (w' := w') (by go_simp) ⟨_, _, _, _, _, _, _, _, _, _, _, _, _, _, _, _, _, _, _, _, _, _, _, _, _, _, _, _, _, _, _, _, _, _, _, _, _, _, _, _, _, _, _, _, _, _, _, _, _, _, _, _, _, _, _, _, rfl, rfl, { H with f4 := fun _ => rfl, g9 := fun h => (by cases h) }⟩
      · exact wpOpIn_val rfl rfl rfl (fun c h => by cases h) (v := .slice (some ⟨b, p.val * 32, none⟩) 32 32) (w' := w') (by go_simp) ⟨_, _, _, _, _, _, _, _, _, _, _, _, _, _, _, _, _, _, _, _, _, _, _, _, _, _, _, _, _, _, _, _, _, _, _, _, _, _, _, _, _, _, _, _, _, _, _, _, _, _, _, _, _, _, _, _, rfl, rfl, { H with f5 := fun _ => rfl }⟩
      · subst hdep
        obtain rfl := H.f5 rfl
        have har : (Instr.arrayAt 35 (.slice (some ⟨b, p.val * 32, none⟩) 32 32)).run Tryf.prog w' = .ok (.pointer (some ⟨b, p.val * 32, none⟩)) w' := by
          simp [Instr.arrayAt, run_underlying Tryf.underlying35]
        exact wpOpIn_val rfl rfl rfl (fun c h => by cases h) (v := .pointer (some ⟨b, p.val * 32, none⟩)) (w' := w') (by go_simp) ⟨_, _, _, _, _, _, _, _, _, _, _, _, _, _, _, _, _, _, _, _, _, _, _, _, _, _, _, _, _, _, _, _, _, _, _, _, _, _, _, _, _, _, _, _, _, _, _, _, _, _, _, _, _, _, _, _, rfl, rfl, { H with f6 := fun _ => rfl }⟩
      · subst hdep
        obtain rfl := H.f6 rfl
        have hB : Bys w' (some ⟨b, 0, none⟩) (m * 32) C := by
          intro i hi
          obtain ⟨ad, e, hc⟩ := hsrc i hi
          cases e
          refine ⟨_, rfl, ?_⟩
          rw [add_new] at hc ⊢
          rw [← hc]
          simp only [World.cell?, (H.k0 b (by omega) (by omega)).trans rfl]
          rfl
        have hl := load_chunk hB hp
        rw [add_new] at hl
        exact wpOpIn_val rfl rfl rfl (fun c h => by cases h) (v := .agg (chunk C p.val).toArray) (w' := w') (by simp [execOp, Act.eval, hl, Result.andThen]) ⟨_, _, _, _, _, _, _, _, _, _, _, _, _, _, _, _, _, _, _, _, _, _, _, _, _, _, _, _, _, _, _, _, _, _, _, _, _, _, _, _, _, _, _, _, _, _, _, _, _, _, _, _, _, _, _, _, rfl, rfl, { H with f7 := fun _ => rfl }⟩
      · subst hdep
        obtain rfl := H.f7 rfl
        obtain rfl : l9 = false := by cases l9 with | false => rfl | true => cases (H.g9 rfl).1
        obtain rfl : l12 = false := by cases l12 with | false => rfl | true => cases H.g12 rfl
        obtain rfl := H.s0 rfl
        have hbs := build_chunk C p.val W.drew
        have hN : W0.heap.size ≤ W.drew.heap.size := h3.size
        exact wpOpIn_val rfl rfl rfl (fun c h => by cases h) (v := .slice (some ⟨W.drew.heap.size, 0, none⟩) 1 1) (w' := W.drew.alloc (.cells (chunk C p.val).toArray 35)) (by simp [execOp, Act.eval, hbs, Result.andThen]) ⟨_, _, _, _, _, _, _, _, _, _, _, _, _, _, _, _, _, _, _, _, _, _, _, _, _, _, _, _, _, _, _, _, _, _, _, _, _, _, _, _, _, _, _, _, _, _, _, _, _, _, _, _, _, _, _, _, rfl, rfl, { H with f8 := fun _ => rfl, g9 := fun h => (by cases h), k0 := fun i hi _ => Below.heap_alloc _ _ _ (by omega), k1 := fun _ => Below.heap_alloc _ _ _ (by omega), s0 := fun h => (by cases h), s1 := fun _ _ => rfl, s2 := fun h => (by cases h), s3 := fun h => (by cases h) }⟩
      · obtain ⟨rfl, rfl⟩ := hdep
        obtain rfl := H.f4 rfl
        obtain rfl := H.f8 rfl
        obtain rfl : l12 = false := by cases l12 with | false => rfl | true => cases H.g12 rfl
        obtain rfl := H.s1 rfl rfl
        have hN : W0.heap.size ≤ W.heap.size := h3.size
        have hown : (W.drew.alloc (.cells (chunk C p.val).toArray 35)).ownsRow W0.heap.size 35 32 u36 pre.length (came C pre) := World.ownsRow.alloc (w := W.drew) h2 _
        obtain ⟨i0, hi0, hz0, hz1, hz2⟩ := info_parts Tryf.info35
        obtain ⟨v', w2, hrun, r1, r2, _⟩ := run_append_own (P := Tryf.prog) (W.drew.alloc (.cells (chunk C p.val).toArray 35)) W0.heap.size 43 43 35 i0 _ 32 32 Tryf.underlying43 hi0 hz0 hz1 hz2 rfl (by decide) u36 pre.length (came C pre) hown ⟨W.drew.heap.size, 0, none⟩ 1 1 (chunk C p.val) (chunk_len C p.val) (chunk_new C p.val W.drew) (chunk_one C p.val) (by unfold maxLen; omega) (by omega) (by simp; omega)
        have hrun' : (Builtin.append_ #[43, 43] 43 #[u36, .slice (some ⟨W.heap.size, 0, none⟩) 1 1]).run Tryf.prog (W.drew.alloc (.cells (chunk C p.val).toArray 35)) = .ok v' w2 := hrun
        have hne : ∀ i, i < W0.heap.size → some i ≠ u36.ownBlock := fun i hi e => by
          have := (h2.lt i e.symm).1
          omega
        exact wpOpIn_val rfl rfl (by simp [Oper.about, resolve, Target.leads, Sem.run_pure]) (fun c h => by cases h) (v := v') (w' := w2) (by simp [execOp, Act.eval, resolve, invoke, builtin, hrun', Result.andThen]) ⟨_, _, _, _, _, _, _, _, _, _, _, _, _, _, _, _, _, _, _, _, _, _, _, _, _, _, _, _, _, _, _, _, _, _, _, _, _, _, _, _, _, _, _, _, _, _, _, _, _, _, _, _, _, _, _, _, rfl, rfl, { H with g9 := fun _ => ⟨rfl, rfl⟩, g12 := fun h => (by cases h), s3 := fun h => (by cases h), k0 := fun i hi hn => (r2.block i (by simp; omega) (hne i hi)).trans (H.k0 i hi hn), k1 := fun _ => (r2.block _ (by simp; omega) (hne _ (by omega))).trans (H.k1 rfl), s0 := fun h => (by cases h), s1 := fun _ h => (by cases h), s2 := fun _ _ => ⟨r1, r2⟩ }⟩
      · obtain rfl : l0 = true := by simpa using hdep.1
        obtain rfl := H.f0 rfl
        exact wpOpIn_val rfl rfl rfl (fun c h => by cases h) (v := .pointer (some ⟨w.heap.size, 0, none⟩)) (w' := w') (by go_simp) ⟨_, _, _, _, _, _, _, _, _, _, _, _, _, _, _, _, _, _, _, _, _, _, _, _, _, _, _, _, _, _, _, _, _, _, _, _, _, _, _, _, _, _, _, _, _, _, _, _, _, _, _, _, _, _, _, _, rfl, rfl, { H with f10 := fun _ => rfl }⟩
      · obtain rfl : l10 = true := by simpa using hdep.1
        obtain rfl := H.f10 rfl
        exact wpOpIn_val rfl rfl rfl (fun c h => by cases h) (v := .pointer (some ⟨w.heap.size, 1, none⟩)) (w' := w') (by go_simp) ⟨_, _, _, _, _, _, _, _, _, _, _, _, _, _, _, _, _, _, _, _, _, _, _, _, _, _, _, _, _, _, _, _, _, _, _, _, _, _, _, _, _, _, _, _, _, _, _, _, _, _, _, _, _, _, _, _, rfl, rfl, { H with f11 := fun _ => rfl }⟩
      · obtain rfl : l11 = true := by simpa using hdep.1
        obtain rfl : l9 = true := by simpa using hdep.2.1
        obtain rfl := H.f11 rfl
        have hO := H.s2 rfl rfl
        obtain ⟨g', cap', rfl⟩ := ownsRow_succ hO.1
        have hr := h1.of_block (H.k1 rfl)
        have hc := hr.cell (i := 1) (by omega)
        have hz := hr.frozen 1
        simp only [if_true] at hc
        exact wpOpIn_skip rfl rfl rfl (fun c h => by cases h) (w' := w'.setCell ⟨w.heap.size, 1, none⟩ (.slice (some ⟨g', 0, none⟩) (pre.length + 1) cap')) (by go_simp) ⟨_, _, _, _, _, _, _, _, _, _, _, _, _, _, _, _, _, _, _, _, _, _, _, _, _, _, _, _, _, _, _, _, _, _, _, _, _, _, _, _, _, _, _, _, _, _, _, _, _, _, _, _, _, _, _, _, rfl, rfl, { H with g12 := fun _ => rfl, k0 := fun i hi hn => (Deep.blk_setCell_other _ _ _ _ hn).trans (H.k0 i hi hn), k1 := fun h => (by cases h), s0 := fun h => (by cases (H.g9 rfl).1.symm.trans h), s1 := fun _ h => (by cases h), s2 := fun _ h => (by cases h), s3 := fun _ => ⟨_, w', hO, H.k1 rfl, rfl⟩ }⟩
  case done =>
    rintro D ys W hD rfl ⟨v, h1, h2, h3⟩ hK
    have hc : W.cell? ⟨w.heap.size + 1, 0, none⟩ = some (.pointer (some ⟨w.heap.size, 0, none⟩)) := by
      rw [cell_of_row _ _ 0 _ 27 (0, 0) ((h3.block _ (by omega) (by simp)).trans h27)]; rfl
    gi_wp2
    refine ⟨by simp, .inl ⟨_, _, rfl, run_takeDeferred hK, ?_⟩⟩
    refine ⟨_, results_tmp2 rfl _ _ _, ?_⟩
    have e1 := came_all C m
    rw [e1, List.length_finRange] at h2
    obtain ⟨a', cap', rfl, hB⟩ := owns_bys35 h2
    refine ⟨w.heap.size, a', cap', rfl, ?_, ?_, ?_⟩
    · have := (h1.of_block (w' := W.putObj D (.deferred none)) (World.putObj_heap_other (by omega))).cell (i := 1) (by omega)
      simpa using this
    · intro i hi
      obtain ⟨ad, e, hc⟩ := hB i hi
      refine ⟨ad, e, ?_⟩
      exact (grownBy_putObj' W D (.deferred none)).cell hc (by
        intro e2
        obtain ⟨rfl⟩ := e2
        have hrow := h2.2
        rcases hrow with ⟨h, _⟩ | ⟨g, c', cur, hv, _, hblk, _⟩
        · simp at h; rw [h.1] at e; cases e
        · simp at hv
          obtain ⟨rfl, rfl⟩ := hv
          cases e
          rw [show (({ block := g, off := 0 } : Addr).add i).block = g by rw [add_new]] at hK
          rw [hblk] at hK
          cases hK)
    · refine gb_later (row := D) ?_ (grownBy_putObj' W D (.deferred none)) (by omega)
      exact ⟨h3.os.trans hg0.os, h3.tape.trans hg0.tape, h3.output.trans hg0.output, Nat.le_trans hg0.size h3.size, fun i hi _ => (h3.block i (by omega) (by simp; omega)).trans (hg0.block i hi (by simp))⟩
  case stop =>
    rintro D c pre W _ _ h _
    exact h.elim
end Go.Proofs.Qxb6613845aFmt
