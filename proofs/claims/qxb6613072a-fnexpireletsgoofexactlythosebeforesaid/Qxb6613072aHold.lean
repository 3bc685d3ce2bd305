/- keyOf; what a held message's block holds. -/
import Derived.Test.Qxb6613072aMap
import Derived.Laws.Tables
import Derived.WalkSpells
namespace Go.Proofs.Qxb6613072a
open Go.RowKit Go.Maps

set_option maxRecDepth 100000 in
set_option maxHeartbeats 1000000 in
theorem keyOf31 (m : HM) (z : Int) (w : World) :
    Calls Try.prog 31 #[.agg #[.int .u8 m.ty, .string m.o], .agg #[.int .u8 m.el, .int .i64 m.ref, .int .i64 m.tot, .int .i64 z]] w fun e w' => e = .returned (keyV m) ∧ Hid (w.grownBy w' none) := by
  go_enter Try.func31, Try.ntmps31
  go_wp2
  refine bodyPost_ret (results_cell rfl _ _ _ rfl (v := keyV m) ?_) rfl ⟨rfl, gb_alloc (gb_alloc (gb_alloc (gb_refl _ _) _) _) _⟩
  unfold keyV
  go_simp

/-- the cells of a new held message -/
noncomputable def heldCells (k n s : Int) : Array Value :=
  (((Try.zeroCells76.setIfInBounds 0 (.int .u64 k)).setIfInBounds 4 (.int .u64 n)).setIfInBounds 5 (.int .i64 s)).setIfInBounds 6 (.pointer none)
theorem zero76_size : Try.zeroCells76.size = 453 := by kernel_rfl
theorem zero76_7 : Try.zeroCells76[7]? = some (.slice none 0 0) := by kernel_rfl
theorem heldCells_size (k n s : Int) : (heldCells k n s).size = 453 := by simp only [heldCells, Array.size_setIfInBounds, zero76_size]
theorem built76 (k n s : Int) : Try.prog.built 76 [(0, .int .u64 k), (2, .agg #[.int .u64 n, .int .i64 s, .pointer none])] = some (heldCells k n s) := by kernel_rfl
theorem build76 (k n s : Int) (w : World) : (Instr.build 76 #[(0, .int .u64 k), (2, .agg #[.int .u64 n, .int .i64 s, .pointer none])]).run Try.prog w = .ok (.agg (heldCells k n s)) w :=
  run_build w 76 _ _ (built76 k n s)
theorem info72 : (Try.prog.info? 72).map (fun i => (i.zero, i.size, i.bytes)) = some (some (.agg #[.int .i64 0, .int .i64 0, .int .i64 0, .int .i64 0, .int .i64 0, .int .i64 0, .int .u8 0, .int .u8 0]), 8, 56) := by kernel_rfl
theorem row_of_owns {w1 : World} {e : TypeId} {size n B b : Nat} {xs : List Value} (h : w1.ownsRow b e size (.slice (some ⟨B, 0, none⟩) n n) n xs) : ∃ f, w1.rowIs B e (n * size) f := by
  obtain ⟨_, hrow⟩ := h
  rcases hrow with ⟨h, _⟩ | ⟨g, c', cur, hv, _, hblk, _, _, hsz, _⟩
  · cases h
  · obtain ⟨rfl, rfl⟩ : B = g ∧ n = c' := by simpa using hv
    exact ⟨fun i => cur.getD i undef, cur, hblk, hsz, fun i hi => by rw [Array.getElem?_eq_getElem (by omega)]; simp [Array.getD, hsz, hi]⟩
theorem rowIs_grown {w w' : World} {b n : Nat} {t : TypeId} {f : Nat → Value} {row : Option Nat} (h : w.rowIs b t n f) (g : w.grownBy w' row) (hr : some b ≠ row) : w'.rowIs b t n f := h.of_block (g.block b h.lt hr)

/-- nothing that lay has turned but blocks jb and mb -/
structure Kept2 (a c : World) (jb mb : Nat) : Prop where
  os : c.os = a.os
  tape : c.tape = a.tape
  output : c.output = a.output
  size : a.heap.size ≤ c.heap.size
  block : ∀ i, i < a.heap.size → i ≠ jb → i ≠ mb → c.heap[i]? = a.heap[i]?
/-- every value is a number -/
def IntsTo (f : Nat → Value) (n : Nat) : Prop := ∀ j, j < n → ∃ k x, f j = .int k x
theorem ints_set {f : Nat → Value} {n : Nat} (h : IntsTo f n) (i : Nat) (k : IntKind) (x : Int) : IntsTo (fun j => if j = i then .int k x else f j) n := by
  intro j hj
  by_cases e : j = i
  · exact ⟨k, x, by simp [e]⟩
  · obtain ⟨k', x', e'⟩ := h j hj
    exact ⟨k', x', by simp [e, e']⟩
theorem row_ints {w1 : World} {n B b : Nat} (h : w1.ownsRow b 72 8 (.slice (some ⟨B, 0, none⟩) n n) n (madeCells #[.int .i64 0, .int .i64 0, .int .i64 0, .int .i64 0, .int .i64 0, .int .i64 0, .int .u8 0, .int .u8 0] (n * 8)).toList) : ∃ f, w1.rowIs B 72 (n * 8) f ∧ IntsTo f (n * 8) := by
  obtain ⟨f, hf⟩ := row_of_owns h
  refine ⟨f, hf, fun j hj => ?_⟩
  have hc := h.cells (g := B) rfl j ((#[.int .i64 0, .int .i64 0, .int .i64 0, .int .i64 0, .int .i64 0, .int .i64 0, .int .u8 0, .int .u8 0] : Array Value)[j % 8]!) (by simp [madeCells, hj])
  rw [show (⟨B, 0, none⟩ : Addr).add j = ⟨B, j, none⟩ by unfold Addr.add; split <;> simp_all, hf.cell hj] at hc
  have e := Option.some.inj hc
  have : j % 8 < 8 := Nat.mod_lt _ (by omega)
  generalize j % 8 = r at *
  match r, this with
  | 0, _ | 1, _ | 2, _ | 3, _ | 4, _ | 5, _ | 6, _ | 7, _ => exact ⟨_, _, e⟩
/-- a held message at block B -/
structure Held1 (w : World) (B : Nat) (k : Int) (m : HM) (sn : Nat) : Prop where
  c0 : w.cell? ⟨B, 0, none⟩ = some (.int .u64 k)
  c4 : w.cell? ⟨B, 4, none⟩ = some (.int .u64 (m.lat % 1000000000))
  c5 : w.cell? ⟨B, 5, none⟩ = some (.int .i64 (m.lat / 1000000000))
  c6 : w.cell? ⟨B, 6, none⟩ = some (.pointer none)
  c7 : w.cell? ⟨B, 7, none⟩ = some (.slice (some ⟨B + 1, 0, none⟩) sn sn)
  qs : ∀ t, t < sn → w.cell? ⟨B + 1, t * 8, none⟩ = some (.int .i64 (m.q t))
  rs : ∃ f, w.rowIs (B + 1) 72 (sn * 8) f ∧ IntsTo f (sn * 8)
/-- one more message is held -/
def Held (w w' : World) (jb mb k : Nat) (m : HM) (sn n : Nat) (D : DataW Unit) : Prop :=
  ∃ B, w.heap.size ≤ B ∧ Held1 w' B k m sn ∧ w'.ownsMap Try.prog 78 RP mb (n + 1) (D.put (klit m) (.lit (.int .i64 B))) ∧ (∃ f, w'.rowIs jb 56 5 f ∧ f 0 = .map (some mb) ∧ f 1 = .int .u64 ((k : Int) + 1)) ∧ Kept2 w w' jb mb

theorem held_get (k n s : Int) : (heldCells k n s).getD 0 undef = .int .u64 k ∧ (heldCells k n s).getD 4 undef = .int .u64 n ∧ (heldCells k n s).getD 5 undef = .int .i64 s ∧ (heldCells k n s).getD 6 undef = .pointer none := by
  have hs := zero76_size
  refine ⟨?_, ?_, ?_, ?_⟩ <;> simp [heldCells, hs]
theorem hold_cells {w : World} {B sn : Nat} {k lat : Int} {m : HM} {f : Nat → Value} (h : w.rowIs B 76 453 (fun j => if j = 7 then .slice (some ⟨B + 1, 0, none⟩) sn sn else (heldCells k (lat % 1000000000) (lat / 1000000000)).getD j undef))
    (hq : w.rowIs (B + 1) 72 (sn * 8) f) (hf : (∀ j, j < sn → f (j * 8) = .int .i64 (m.q j)) ∧ IntsTo f (sn * 8)) (hl : m.lat = lat) : Held1 w B k m sn := by
  subst hl
  obtain ⟨g0, g4, g5, g6⟩ := held_get k (m.lat % 1000000000) (m.lat / 1000000000)
  have a0 := h.cell (i := 0) (by omega)
  have a4 := h.cell (i := 4) (by omega)
  have a5 := h.cell (i := 5) (by omega)
  have a6 := h.cell (i := 6) (by omega)
  have a7 := h.cell (i := 7) (by omega)
  rw [if_neg (by decide), g0] at a0
  rw [if_neg (by decide), g4] at a4
  rw [if_neg (by decide), g5] at a5
  rw [if_neg (by decide), g6] at a6
  rw [if_pos rfl] at a7
  exact ⟨a0, a4, a5, a6, a7, fun t ht => by rw [hq.cell (by omega), hf.1 t ht], f, hq, hf.2⟩
theorem kept2_of {w w5 wr w' : World} {B jb mb : Nat} (h1 : w.grownBy w5 none) (h2 : w5.grownBy wr (some (B + 1))) (h3 : wr.drew.grownBy w' (some mb)) (hB : w.heap.size ≤ B) (v : Value) : Kept2 w (w'.setCell ⟨jb, 1, none⟩ v) jb mb := by
  refine ⟨h3.os.trans (h2.os.trans h1.os), h3.tape.trans (h2.tape.trans h1.tape), h3.output.trans (h2.output.trans h1.output), ?_, fun i hi hj hm => ?_⟩
  · have a := h1.size
    have b := h2.size
    have c : wr.heap.size ≤ w'.heap.size := h3.size
    simp [World.setCell]
    omega
  · have a := h1.size
    have b := h2.size
    rw [Below.heap_setCell _ _ _ _ hj, h3.block i (show i < wr.heap.size by omega) (by simp; exact hm)]
    show wr.heap[i]? = _
    rw [h2.block i (by omega) (by simp; omega), h1.block i hi (by simp)]

/-- region 2 of ZZhold: what holds when the operations with a mark have run -/
structure RF2 (W1 : World) (jb : Nat) (k lat : Int) (l0 l1 l2 l3 l4 l5 l6 l7 l8 l9 : Bool) (u27 u28 u29 u30 u31 u32 u33 u34 u35 u16 : Value) (w : World) : Prop where
  f0 : l0 = true → u27 = .pointer (some ⟨jb, 0, none⟩)
  f1 : l1 = true → u28 = .pointer (some ⟨jb, 0, none⟩)
  f2 : l2 = true → u29 = .pointer (some ⟨jb, 1, none⟩)
  f3 : l3 = true → u30 = .int .u64 k
  f4 : l4 = true → u31 = .agg #[.int .u64 0, .int .i64 0, .pointer none]
  f5 : l5 = true → u32 = .int .i64 lat
  f6 : l6 = true → u33 = T lat
  f7 : l7 = true → u34 = .agg (heldCells k (lat % 1000000000) (lat / 1000000000))
  f9 : l9 = true → u16 = u35
  g7 : l7 = true → l6 = true
  g8 : l8 = true → l7 = true
  g9 : l9 = true → l8 = true
  gw : W1.grownBy w none
  s8 : l8 = true → ∃ w2, W1.grownBy w2 none ∧ u35 = .pointer (some ⟨w2.heap.size, 0, none⟩) ∧ w = w2.alloc (.cells (heldCells k (lat % 1000000000) (lat / 1000000000)) 76)

def RI2 (t1 t2 t3 t4 t5 t6 t8 t9 t10 t11 t12 t13 t14 t15 t17 t18 t19 t20 t21 t22 t23 t24 t25 t26 t36 t37 t38 t39 t40 t41 t42 t43 t44 t45 t46 t47 t48 t49 t50 t51 t52 t53 t54 t55 t56 t57 t58 t59 t60 t61 t62 t63 t64 t65 t66 t67 t68 t69 t70 t71 t72 t73 t74 t75 t76 t77 t78 : Value) (W1 : World) (jb : Nat) (k lat : Int) (L : Array Bool) (act : Act) (w : World) : Prop :=
  ∃ (l0 l1 l2 l3 l4 l5 l6 l7 l8 l9 : Bool) (u27 u28 u29 u30 u31 u32 u33 u34 u35 u16 : Value), L = #[l0, l1, l2, l3, l4, l5, l6, l7, l8, l9] ∧ act = { tmps := #[.pointer (some ⟨jb, 0, none⟩), t1, t2, t3, t4, t5, t6, .int .i64 lat, t8, t9, t10, t11, t12, t13, t14, t15, u16, t17, t18, t19, t20, t21, t22, t23, t24, t25, t26, u27, u28, u29, u30, u31, u32, u33, u34, u35, t36, t37, t38, t39, t40, t41, t42, t43, t44, t45, t46, t47, t48, t49, t50, t51, t52, t53, t54, t55, t56, t57, t58, t59, t60, t61, t62, t63, t64, t65, t66, t67, t68, t69, t70, t71, t72, t73, t74, t75, t76, t77, t78], defers := [] } ∧ RF2 W1 jb k lat l0 l1 l2 l3 l4 l5 l6 l7 l8 l9 u27 u28 u29 u30 u31 u32 u33 u34 u35 u16 w

/-- region 9 of ZZhold -/
structure RF9 (W1 : World) (jb mb B n : Nat) (m : HM) (D : DataW Unit) (l0 l1 l2 l3 l4 l5 l6 l7 l8 l9 l10 l11 l12 l13 : Bool) (u59 u60 u61 u62 u63 u64 u65 u66 u67 u68 u69 u70 u71 : Value) (w : World) : Prop where
  f0 : l0 = true → u59 = .pointer (some ⟨jb, 0, none⟩)
  f1 : l1 = true → u60 = .pointer (some ⟨jb, 0, none⟩)
  f2 : l2 = true → u61 = .pointer (some ⟨jb, 0, none⟩)
  f3 : l3 = true → u62 = .map (some mb)
  f4 : l4 = true → u63 = .int .u8 m.ty
  f5 : l5 = true → u64 = .string m.o
  f6 : l6 = true → u65 = .agg #[.int .u8 m.ty, .string m.o]
  f7 : l7 = true → u66 = .int .u8 m.el
  f8 : l8 = true → u67 = .int .i64 m.ref
  f9 : l9 = true → u68 = .int .i64 m.tot
  f10 : l10 = true → u69 = .agg #[.int .u8 m.el, .int .i64 m.ref, .int .i64 m.tot, .int .i64 0]
  f11 : l11 = true → u70 = keyV m
  f12 : l12 = true → u71 = .pointer (some ⟨B, 0, none⟩)
  g13 : l13 = true → l3 = true ∧ l11 = true
  gw : l13 = false → W1.grownBy w none
  s13 : l13 = true → ∃ w2, W1.grownBy w2 none ∧ w.ownsMap Try.prog 78 RP mb (n + 1) (D.put (klit m) (.lit (.int .i64 B))) ∧ w2.grownBy w (some mb)

def RI9 (t6 t7 t8 t9 t10 t11 t12 t13 t14 t15 t17 t18 t19 t20 t21 t22 t23 t24 t25 t26 t27 t28 t29 t30 t31 t32 t33 t34 t35 t36 t37 t38 t39 t40 t41 t42 t43 t44 t45 t46 t47 t48 t49 t50 t51 t52 t53 t54 t55 t56 t57 t58 t72 t73 t74 t75 t76 t77 t78 : Value) (W1 : World) (jb mb B n : Nat) (m : HM) (D : DataW Unit) (L : Array Bool) (act : Act) (w : World) : Prop :=
  ∃ (l0 l1 l2 l3 l4 l5 l6 l7 l8 l9 l10 l11 l12 l13 : Bool) (u59 u60 u61 u62 u63 u64 u65 u66 u67 u68 u69 u70 u71 : Value), L = #[l0, l1, l2, l3, l4, l5, l6, l7, l8, l9, l10, l11, l12, l13] ∧ act = { tmps := #[.pointer (some ⟨jb, 0, none⟩), .string m.o, .int .u8 m.ty, .int .i64 m.ref, .int .i64 m.tot, .int .u8 m.el, t6, t7, t8, t9, t10, t11, t12, t13, t14, t15, .pointer (some ⟨B, 0, none⟩), t17, t18, t19, t20, t21, t22, t23, t24, t25, t26, t27, t28, t29, t30, t31, t32, t33, t34, t35, t36, t37, t38, t39, t40, t41, t42, t43, t44, t45, t46, t47, t48, t49, t50, t51, t52, t53, t54, t55, t56, t57, t58, u59, u60, u61, u62, u63, u64, u65, u66, u67, u68, u69, u70, u71, t72, t73, t74, t75, t76, t77, t78], defers := [] } ∧ RF9 W1 jb mb B n m D l0 l1 l2 l3 l4 l5 l6 l7 l8 l9 l10 l11 l12 l13 u59 u60 u61 u62 u63 u64 u65 u66 u67 u68 u69 u70 u71 w


set_option maxRecDepth 100000 in
set_option maxHeartbeats 2000000 in
theorem hold_some (jb mb sn sc : Nat) (sa : Option Addr) (k : Nat) (m : HM) (D : DataW Unit) (n : Nat) (w : World) (hm : m.Wf) (hsn : sn ≤ 254) (hk : k < 4096) (h0 : -9223372036854775808 ≤ m.lat) (h1 : m.lat ≤ 9223372036854775807)
    (fj : Nat → Value) (hJ : w.rowIs jb 56 5 fj) (e0 : fj 0 = .map (some mb)) (e1 : fj 1 = .int .u64 (k : Int)) (hjm : jb ≠ mb)
    (hown : w.ownsMap Try.prog 78 RP mb n D) (hn : n < maxLen) (hq : ∀ t, t < sn → ∃ sad : Addr, sa = some sad ∧ w.cell? (sad.add t) = some (.int .i64 (m.q t))) :
    Calls Try.prog 25 #[.pointer (some ⟨jb, 0, none⟩), .string m.o, .int .u8 m.ty, .int .i64 m.ref, .int .i64 m.tot, .int .u8 m.el, .slice sa sn sc, .int .i64 m.lat] w fun e w' => e = .returned (.tuple #[]) ∧ Hid (Held w w' jb mb k m sn n D) := by
  have c0 := hJ.cell (i := 0) (by omega)
  have c1 := hJ.cell (i := 1) (by omega)
  rw [e0] at c0
  rw [e1] at c1
  have HJ : Hid (w.rowIs jb 56 5 fj ∧ fj 0 = .map (some mb) ∧ fj 1 = .int .u64 (k : Int)) := ⟨hJ, e0, e1⟩
  clear hJ e0 e1
  have HO : Hid (w.ownsMap Try.prog 78 RP mb n D) := hown
  have HQ : Hid (∀ t, t < sn → ∃ sad : Addr, sa = some sad ∧ w.cell? (sad.add t) = some (.int .i64 (m.q t))) := hq
  clear hown hq
  obtain ⟨lat, hlat⟩ : ∃ x, m.lat = x := ⟨_, rfl⟩
  have HLT : Hid (m.lat = lat) := hlat
  rw [hlat] at h0 h1 ⊢
  clear hlat
  have hmn := fun w => run_eql_map_nil (P := Try.prog) w 52 78 63 (some mb) Try.underlying52
  go_enter Try.func25, Try.ntmps25
  go_wp2_with fail
  refine wp_region_any (by kernel_rfl) ?_
  change wpAny _ _ _ _ _ _ _ (World.drew _)
  refine wpAny_inv (RI2 _ _ _ _ _ _ _ _ _ _ _ _ _ _ _ _ _ _ _ _ _ _ _ _ _ _ _ _ _ _ _ _ _ _ _ _ _ _ _ _ _ _ _ _ _ _ _ _ _ _ _ _ _ _ _ _ _ _ _ _ _ _ _ _ _ _ _ w.drew jb k lat) ?size ?ord ?step ?fin _ _ _ _ ⟨false, false, false, false, false, false, false, false, false, false, _, _, _, _, _, _, _, _, _, _, rfl, rfl, by constructor <;> first | (intro h; cases h) | exact gb_refl _ _⟩ (by decide)
  case size =>
    rintro L act w' ⟨l0, l1, l2, l3, l4, l5, l6, l7, l8, l9, u27, u28, u29, u30, u31, u32, u33, u34, u35, u16, rfl, rfl, _⟩
    rfl
  case ord => exact ordered (by kernel_rfl)
  case step =>
    rintro L act w' ⟨l0, l1, l2, l3, l4, l5, l6, l7, l8, l9, u27, u28, u29, u30, u31, u32, u33, u34, u35, u16, rfl, rfl, H⟩ i hi
    obtain ⟨hun, o, ho, hdep⟩ := mem_ready.1 hi
    have hi10 : i < 10 := (Array.getElem?_eq_some_iff.1 ho).1
    obtain rfl | rfl | rfl | rfl | rfl | rfl | rfl | rfl | rfl | rfl : i = 0 ∨ i = 1 ∨ i = 2 ∨ i = 3 ∨ i = 4 ∨ i = 5 ∨ i = 6 ∨ i = 7 ∨ i = 8 ∨ i = 9 := by omega
    all_goals (simp at ho; subst ho; simp [Region.binds] at hun hdep; subst hun)
    · exact wpOp_val rfl rfl (v := .pointer (some ⟨jb, 0, none⟩)) (w' := w') (by go_simp) ⟨_, _, _, _, _, _, _, _, _, _, _, _, _, _, _, _, _, _, _, _, rfl, rfl, { H with f0 := fun _ => rfl }⟩
    · subst hdep
      obtain rfl := H.f0 rfl
      exact wpOp_val rfl rfl (v := .pointer (some ⟨jb, 0, none⟩)) (w' := w') (by go_simp) ⟨_, _, _, _, _, _, _, _, _, _, _, _, _, _, _, _, _, _, _, _, rfl, rfl, { H with f1 := fun _ => rfl }⟩
    · subst hdep
      obtain rfl := H.f1 rfl
      exact wpOp_val rfl rfl (v := .pointer (some ⟨jb, 1, none⟩)) (w' := w') (by go_simp) ⟨_, _, _, _, _, _, _, _, _, _, _, _, _, _, _, _, _, _, _, _, rfl, rfl, { H with f2 := fun _ => rfl }⟩
    · subst hdep
      obtain rfl := H.f2 rfl
      have hc := H.gw.cell c1 (by simp)
      exact wpOp_val rfl rfl (v := .int .u64 k) (w' := w') (by go_simp) ⟨_, _, _, _, _, _, _, _, _, _, _, _, _, _, _, _, _, _, _, _, rfl, rfl, { H with f3 := fun _ => rfl }⟩
    · exact wpOp_val rfl rfl (v := .agg #[.int .u64 0, .int .i64 0, .pointer none]) (w' := w') (by go_simp) ⟨_, _, _, _, _, _, _, _, _, _, _, _, _, _, _, _, _, _, _, _, rfl, rfl, { H with f4 := fun _ => rfl }⟩
    · exact wpOp_val rfl rfl (v := .int .i64 lat) (w' := w') (by go_simp) ⟨_, _, _, _, _, _, _, _, _, _, _, _, _, _, _, _, _, _, _, _, rfl, rfl, { H with f5 := fun _ => rfl }⟩
    · obtain ⟨rfl, rfl⟩ := hdep
      obtain rfl := H.f4 rfl
      obtain rfl := H.f5 rfl
      obtain rfl : l7 = false := by cases l7 with | false => rfl | true => cases H.g7 rfl
      obtain rfl : l8 = false := by cases l8 with | false => rfl | true => cases H.g8 rfl
      refine wpOp_call rfl rfl (f := 27) (args := #[.agg #[.int .u64 0, .int .i64 0, .pointer none], .int .i64 lat]) (w' := w') (by go_simp) ?_
      refine (add_runs lat h0 h1 w').mono ?_
      rintro e w2 ⟨rfl, hg⟩
      exact ⟨_, rfl, ⟨_, _, _, _, _, _, _, _, _, _, _, _, _, _, _, _, _, _, _, _, rfl, rfl, { H with f6 := fun _ => rfl, g7 := fun h => (by cases h), gw := gb_trans H.gw hg.out, s8 := fun h => (by cases h) }⟩⟩
    · obtain ⟨rfl, rfl⟩ := hdep
      obtain rfl := H.f3 rfl
      obtain rfl := H.f6 rfl
      obtain rfl : l8 = false := by cases l8 with | false => rfl | true => cases H.g8 rfl
      have hb := build76 k (lat % 1000000000) (lat / 1000000000) w'
      exact wpOp_val rfl rfl (v := .agg (heldCells k (lat % 1000000000) (lat / 1000000000))) (w' := w') (by simp [execOp, Act.eval, T, hb, Result.andThen]) ⟨_, _, _, _, _, _, _, _, _, _, _, _, _, _, _, _, _, _, _, _, rfl, rfl, { H with f7 := fun _ => rfl, g7 := fun _ => rfl, g8 := fun h => (by cases h) }⟩
    · subst hdep
      obtain rfl := H.f7 rfl
      obtain rfl : l9 = false := by cases l9 with | false => rfl | true => cases H.g9 rfl
      have hbx : (Instr.box 76 (.agg (heldCells k (lat % 1000000000) (lat / 1000000000)))).run Try.prog w' = .ok (.pointer (some ⟨w'.heap.size, 0, none⟩)) (w'.alloc (.cells (heldCells k (lat % 1000000000) (lat / 1000000000)) 76)) := by
        simp [Instr.box, newVar, newRow, Value.cells]
      exact wpOp_val rfl rfl (v := .pointer (some ⟨w'.heap.size, 0, none⟩)) (w' := w'.alloc (.cells (heldCells k (lat % 1000000000) (lat / 1000000000)) 76)) (by simp [execOp, Act.eval, hbx, Result.andThen]) ⟨_, _, _, _, _, _, _, _, _, _, _, _, _, _, _, _, _, _, _, _, rfl, rfl, { H with f9 := fun h => (by cases h), g8 := fun _ => rfl, g9 := fun h => (by cases h), gw := gb_alloc H.gw _, s8 := fun _ => ⟨w', H.gw, rfl, rfl⟩ }⟩
    · obtain rfl : l8 = true := by simpa using hdep.1
      obtain ⟨w2, hg2, rfl, hw2⟩ := H.s8 rfl
      exact wpOp_val rfl rfl (v := .pointer (some ⟨w2.heap.size, 0, none⟩)) (w' := w') (by go_simp) ⟨_, _, _, _, _, _, _, _, _, _, _, _, _, _, _, _, _, _, _, _, rfl, rfl, { H with f9 := fun _ => rfl, g9 := fun _ => rfl }⟩
  case fin =>
    rintro L act w' ⟨l0, l1, l2, l3, l4, l5, l6, l7, l8, l9, u27, u28, u29, u30, u31, u32, u33, u34, u35, u16, rfl, rfl, H⟩ hall
    obtain rfl : l0 = true := by simpa using hall 0 (by decide)
    obtain rfl : l1 = true := by simpa using hall 1 (by decide)
    obtain rfl : l2 = true := by simpa using hall 2 (by decide)
    obtain rfl : l3 = true := by simpa using hall 3 (by decide)
    obtain rfl : l4 = true := by simpa using hall 4 (by decide)
    obtain rfl : l5 = true := by simpa using hall 5 (by decide)
    obtain rfl : l6 = true := by simpa using hall 6 (by decide)
    obtain rfl : l7 = true := by simpa using hall 7 (by decide)
    obtain rfl : l8 = true := by simpa using hall 8 (by decide)
    obtain rfl : l9 = true := by simpa using hall 9 (by decide)
    obtain rfl := H.f0 rfl
    obtain rfl := H.f1 rfl
    obtain rfl := H.f2 rfl
    obtain rfl := H.f3 rfl
    obtain rfl := H.f4 rfl
    obtain rfl := H.f5 rfl
    obtain rfl := H.f6 rfl
    obtain rfl := H.f7 rfl
    obtain rfl := H.f9 rfl
    obtain ⟨w2, hg2, rfl, rfl⟩ := H.s8 rfl
    clear H hall
    dsimp only
    have G2 : w.grownBy w2 none := gb_trans (gb_drew (gb_refl _ _)) hg2
    have hB2 : (w2.alloc (.cells (heldCells k (lat % 1000000000) (lat / 1000000000)) 76)).rowIs w2.heap.size 76 453 (fun i => (heldCells k (lat % 1000000000) (lat / 1000000000)).getD i undef) := by
      have := World.rowIs_alloc w2 (heldCells k (lat % 1000000000) (lat / 1000000000)) 76 (fun i => (heldCells k (lat % 1000000000) (lat / 1000000000)).getD i undef) (fun i hi => by simp [Array.getD, hi])
      rwa [heldCells_size] at this
    have hj : jb < w2.heap.size := Nat.lt_of_lt_of_le (block_lt_of_cell c0) G2.size
    have hmlt : mb < w2.heap.size := Nat.lt_of_lt_of_le HO.out.lt G2.size
    have G3 : Hid (w.grownBy (w2.alloc (.cells (heldCells k (lat % 1000000000) (lat / 1000000000)) 76)) none) := gb_alloc G2 _
    have hs3 : (w2.alloc (.cells (heldCells k (lat % 1000000000) (lat / 1000000000)) 76)).heap.size = w2.heap.size + 1 := by simp
    have HB3 : Hid (w.heap.size ≤ w2.heap.size) := G2.size
    obtain ⟨B, hBe⟩ : ∃ B, w2.heap.size = B := ⟨_, rfl⟩
    rw [hBe] at hB2 hj hmlt hs3 HB3 ⊢
    have c0' := G3.out.cell c0 (by simp)
    have c1' := G3.out.cell c1 (by simp)
    generalize (w2.alloc (.cells (heldCells k (lat % 1000000000) (lat / 1000000000)) 76)) = w3 at *
    have R3 : Hid (w3.rowIs B 76 453 (fun i => (heldCells k (lat % 1000000000) (lat / 1000000000)).getD i undef)) := hB2
    clear hg2 G2 hB2 hBe w2
    obtain ⟨i0, hi, hz0, hz1, hz2⟩ := info_parts info72
    go_wp2_with (first | (at_make; refine wpList_make_full _ rfl _ _ 66 rfl w3.heap.size 72 i0 _ 8 Try.underlying66 hi hz0 hz1 _ _ _ _ sn rfl rfl rfl rfl (by rw [hz2]; omega) (by unfold maxLen; omega) (Nat.le_refl _) ?_; intro w4 hown4 hgrow4; have r4 := rowIs_grown R3.out hgrow4 (by simp); have k7 := r4.cell (i := 7) (by omega); have z7 := r4.frozen 7))
    rw [hs3] at hown4
    obtain ⟨f0, hQ4, hI4⟩ := row_ints hown4
    have HI4 : Hid (IntsTo f0 (sn * 8)) := hI4
    clear hI4
    have HQ5 : Hid ((w4.setCell ⟨B, 7, none⟩ (.slice (some ⟨B + 1, 0, none⟩) sn sn)).rowIs (B + 1) 72 (sn * 8) f0) := hQ4.setOther (by simp) _
    have HB5 : Hid ((w4.setCell ⟨B, 7, none⟩ (.slice (some ⟨B + 1, 0, none⟩) sn sn)).rowIs B 76 453 (fun j => if j = 7 then .slice (some ⟨B + 1, 0, none⟩) sn sn else (heldCells k (lat % 1000000000) (lat / 1000000000)).getD j undef)) := r4.set 7 _
    have HG5 : Hid (w.grownBy (w4.setCell ⟨B, 7, none⟩ (.slice (some ⟨B + 1, 0, none⟩) sn sn)) none) := gb_setCell (gb_trans G3.out hgrow4) (.inl HB3.out) _
    clear hown4 hgrow4 r4 k7 z7 hQ4 R3 G3 c0' c1' hs3
    generalize (w4.setCell ⟨B, 7, none⟩ (.slice (some ⟨B + 1, 0, none⟩) sn sn)) = w5 at *
    go_loopw [44] (fun i wr => ∃ t : Nat, t ≤ sn ∧ i = .int .i64 t ∧ Hid (∃ f, wr.rowIs (B + 1) 72 (sn * 8) f ∧ ((∀ j, j < t → f (j * 8) = .int .i64 (m.q j)) ∧ IntsTo f (sn * 8)) ∧ w5.grownBy wr (some (B + 1)))) (fun i _ => sn - (intOf i).toNat)
    case atStart => exact ⟨0, Nat.zero_le _, rfl, f0, HQ5.out, ⟨fun j hj => absurd hj (by omega), HI4.out⟩, gb_refl _ _⟩
    case round =>
      obtain ⟨t, ht, rfl, H⟩ := hrel
      obtain ⟨f, hf1, hf2, hf3⟩ := H.out
      by_cases hlt : t < sn
      · obtain ⟨sad, rfl, cs⟩ := HQ.out t hlt
        have cs' := hf3.cell (HG5.out.cell cs (by simp)) (by have := block_lt_of_cell cs; have := HB3.out; simp; omega)
        have k7 := (rowIs_grown HB5.out hf3 (by simp)).cell (i := 7) (by omega)
        simp only [if_true] at k7
        have kq := hf1.cell (i := t * 8) (by omega)
        have zq := hf1.frozen (t * 8)
        have F1 : Hid (wr.rowIs (B + 1) 72 (sn * 8) f) := hf1
        have F2 : Hid ((∀ j, j < t → f (j * 8) = .int .i64 (m.q j)) ∧ IntsTo f (sn * 8)) := hf2
        have F3 : Hid (w5.grownBy wr (some (B + 1))) := hf3
        clear H hf1 hf2 hf3 cs
        go_wp2_with fail
        go_region
        all_goals go_wp2
        all_goals
          refine ⟨⟨t + 1, by omega, by simp, _, (F1.out.set (t * 8) (.int .i64 (m.q t))).drew, ⟨fun j hj => ?_, ints_set F2.out.2 _ _ _⟩, gb_drew (gb_setCell F3.out (.inr rfl) _)⟩, by simp [intOf]; omega⟩
          by_cases e : j = t
          · rw [if_pos (by rw [e]), e]
          · rw [if_neg (by omega)]; exact F2.out.1 j (by omega)
      · obtain rfl : t = sn := by omega
        have F1 : Hid (wr.rowIs (B + 1) 72 (t * 8) f) := hf1
        have F2 : Hid ((∀ j, j < t → f (j * 8) = .int .i64 (m.q j)) ∧ IntsTo f (t * 8)) := hf2
        have F3 : Hid (w5.grownBy wr (some (B + 1))) := hf3
        have HOr : Hid (wr.drew.ownsMap Try.prog 78 RP mb n D) := ((HO.out.kept HG5.out (by simp)).kept hf3 (by have := HO.out.lt; have := HB3.out; simp; omega)).drew
        have c0r : wr.drew.cell? ⟨jb, 0, none⟩ = some (.map (some mb)) := hf3.cell (HG5.out.cell c0 (by simp)) (by simp; omega)
        have c1r : wr.cell? ⟨jb, 1, none⟩ = some (.int .u64 (k : Int)) := hf3.cell (HG5.out.cell c1 (by simp)) (by simp; omega)
        clear H hf1 hf2 hf3
        go_wp2_with fail
        refine wp_region_any (by kernel_rfl) ?_
        change wpAny _ _ _ _ _ _ _ (World.drew _)
        refine wpAny_inv (RI9 _ _ _ _ _ _ _ _ _ _ _ _ _ _ _ _ _ _ _ _ _ _ _ _ _ _ _ _ _ _ _ _ _ _ _ _ _ _ _ _ _ _ _ _ _ _ _ _ _ _ _ _ _ _ _ _ _ _ _ wr.drew jb mb B n m D) ?size ?ord ?step ?fin _ _ _ _ ⟨false, false, false, false, false, false, false, false, false, false, false, false, false, false, _, _, _, _, _, _, _, _, _, _, _, _, _, rfl, rfl, by constructor <;> first | (intro h; cases h; done) | exact fun _ => gb_refl _ _⟩ (by decide)
        case size =>
          rintro L act w' ⟨l0, l1, l2, l3, l4, l5, l6, l7, l8, l9, l10, l11, l12, l13, u59, u60, u61, u62, u63, u64, u65, u66, u67, u68, u69, u70, u71, rfl, rfl, _⟩
          rfl
        case ord => exact ordered (by kernel_rfl)
        case step =>
          rintro L act w' ⟨l0, l1, l2, l3, l4, l5, l6, l7, l8, l9, l10, l11, l12, l13, u59, u60, u61, u62, u63, u64, u65, u66, u67, u68, u69, u70, u71, rfl, rfl, H⟩ i hi
          obtain ⟨hun, o, ho, hdep⟩ := mem_ready.1 hi
          have hi14 : i < 14 := (Array.getElem?_eq_some_iff.1 ho).1
          obtain rfl | rfl | rfl | rfl | rfl | rfl | rfl | rfl | rfl | rfl | rfl | rfl | rfl | rfl : i = 0 ∨ i = 1 ∨ i = 2 ∨ i = 3 ∨ i = 4 ∨ i = 5 ∨ i = 6 ∨ i = 7 ∨ i = 8 ∨ i = 9 ∨ i = 10 ∨ i = 11 ∨ i = 12 ∨ i = 13 := by omega
          all_goals (simp at ho; subst ho; simp [Region.binds] at hun hdep; subst hun)
          · exact wpOp_val rfl rfl (v := .pointer (some ⟨jb, 0, none⟩)) (w' := w') (by go_simp) ⟨_, _, _, _, _, _, _, _, _, _, _, _, _, _, _, _, _, _, _, _, _, _, _, _, _, _, _, rfl, rfl, { H with f0 := fun _ => rfl }⟩
          · subst hdep
            obtain rfl := H.f0 rfl
            exact wpOp_val rfl rfl (v := .pointer (some ⟨jb, 0, none⟩)) (w' := w') (by go_simp) ⟨_, _, _, _, _, _, _, _, _, _, _, _, _, _, _, _, _, _, _, _, _, _, _, _, _, _, _, rfl, rfl, { H with f1 := fun _ => rfl }⟩
          · subst hdep
            obtain rfl := H.f1 rfl
            exact wpOp_val rfl rfl (v := .pointer (some ⟨jb, 0, none⟩)) (w' := w') (by go_simp) ⟨_, _, _, _, _, _, _, _, _, _, _, _, _, _, _, _, _, _, _, _, _, _, _, _, _, _, _, rfl, rfl, { H with f2 := fun _ => rfl }⟩
          · subst hdep
            obtain rfl := H.f2 rfl
            obtain rfl : l13 = false := by cases l13 with | false => rfl | true => cases (H.g13 rfl).1
            have hc := (H.gw rfl).cell c0r (by simp)
            exact wpOp_val rfl rfl (v := .map (some mb)) (w' := w') (by go_simp) ⟨_, _, _, _, _, _, _, _, _, _, _, _, _, _, _, _, _, _, _, _, _, _, _, _, _, _, _, rfl, rfl, { H with f3 := fun _ => rfl, g13 := fun h => (by cases h) }⟩
          · exact wpOp_val rfl rfl (v := .int .u8 m.ty) (w' := w') (by go_simp) ⟨_, _, _, _, _, _, _, _, _, _, _, _, _, _, _, _, _, _, _, _, _, _, _, _, _, _, _, rfl, rfl, { H with f4 := fun _ => rfl }⟩
          · exact wpOp_val rfl rfl (v := .string m.o) (w' := w') (by go_simp) ⟨_, _, _, _, _, _, _, _, _, _, _, _, _, _, _, _, _, _, _, _, _, _, _, _, _, _, _, rfl, rfl, { H with f5 := fun _ => rfl }⟩
          · obtain ⟨rfl, rfl⟩ := hdep
            obtain rfl := H.f4 rfl
            obtain rfl := H.f5 rfl
            exact wpOp_val rfl rfl (v := .agg #[.int .u8 m.ty, .string m.o]) (w' := w') (by go_simp) ⟨_, _, _, _, _, _, _, _, _, _, _, _, _, _, _, _, _, _, _, _, _, _, _, _, _, _, _, rfl, rfl, { H with f6 := fun _ => rfl }⟩
          · exact wpOp_val rfl rfl (v := .int .u8 m.el) (w' := w') (by go_simp) ⟨_, _, _, _, _, _, _, _, _, _, _, _, _, _, _, _, _, _, _, _, _, _, _, _, _, _, _, rfl, rfl, { H with f7 := fun _ => rfl }⟩
          · exact wpOp_val rfl rfl (v := .int .i64 m.ref) (w' := w') (by go_simp) ⟨_, _, _, _, _, _, _, _, _, _, _, _, _, _, _, _, _, _, _, _, _, _, _, _, _, _, _, rfl, rfl, { H with f8 := fun _ => rfl }⟩
          · exact wpOp_val rfl rfl (v := .int .i64 m.tot) (w' := w') (by go_simp) ⟨_, _, _, _, _, _, _, _, _, _, _, _, _, _, _, _, _, _, _, _, _, _, _, _, _, _, _, rfl, rfl, { H with f9 := fun _ => rfl }⟩
          · obtain ⟨rfl, rfl, rfl⟩ := hdep
            obtain rfl := H.f7 rfl
            obtain rfl := H.f8 rfl
            obtain rfl := H.f9 rfl
            exact wpOp_val rfl rfl (v := .agg #[.int .u8 m.el, .int .i64 m.ref, .int .i64 m.tot, .int .i64 0]) (w' := w') (by go_simp) ⟨_, _, _, _, _, _, _, _, _, _, _, _, _, _, _, _, _, _, _, _, _, _, _, _, _, _, _, rfl, rfl, { H with f10 := fun _ => rfl }⟩
          · obtain ⟨rfl, rfl⟩ := hdep
            obtain rfl := H.f6 rfl
            obtain rfl := H.f10 rfl
            obtain rfl : l13 = false := by cases l13 with | false => rfl | true => cases (H.g13 rfl).2
            refine wpOp_call rfl rfl (f := 31) (args := #[.agg #[.int .u8 m.ty, .string m.o], .agg #[.int .u8 m.el, .int .i64 m.ref, .int .i64 m.tot, .int .i64 0]]) (w' := w') (by go_simp) ?_
            refine (keyOf31 m 0 w').mono ?_
            rintro e w2 ⟨rfl, hg⟩
            exact ⟨_, rfl, ⟨_, _, _, _, _, _, _, _, _, _, _, _, _, _, _, _, _, _, _, _, _, _, _, _, _, _, _, rfl, rfl, { H with f11 := fun _ => rfl, g13 := fun h => (by cases h), gw := fun _ => gb_trans (H.gw rfl) hg.out, s13 := fun h => (by cases h) }⟩⟩
          · exact wpOp_val rfl rfl (v := .pointer (some ⟨B, 0, none⟩)) (w' := w') (by go_simp) ⟨_, _, _, _, _, _, _, _, _, _, _, _, _, _, _, _, _, _, _, _, _, _, _, _, _, _, _, rfl, rfl, { H with f12 := fun _ => rfl }⟩
          · obtain rfl : l3 = true := by simpa using hdep.1
            obtain rfl : l11 = true := by simpa using hdep.2.1
            obtain rfl : l12 = true := by simpa using hdep.2.2.1
            obtain rfl := H.f3 rfl
            obtain rfl := H.f11 rfl
            obtain rfl := H.f12 rfl
            have how : w'.ownsMap Try.prog 78 RP mb n D := HOr.out.kept (H.gw rfl) (by simp)
            obtain ⟨w2, hrun, r1, r2⟩ := how.update law Try.underlying52 hn (keyOf_mk m hm) (val := .pointer (some ⟨B, 0, none⟩)) (d := .lit (.int .i64 B)) (ps := []) rfl
            exact wpOp_skip rfl rfl (w' := w2) (by simp [execOp, Act.eval, hrun, Result.andThen]) ⟨_, _, _, _, _, _, _, _, _, _, _, _, _, _, _, _, _, _, _, _, _, _, _, _, _, _, _, rfl, rfl, { H with g13 := fun _ => ⟨rfl, rfl⟩, gw := fun h => (by cases h), s13 := fun _ => ⟨w', H.gw rfl, r1, r2⟩ }⟩
        case fin =>
          rintro L act w' ⟨l0, l1, l2, l3, l4, l5, l6, l7, l8, l9, l10, l11, l12, l13, u59, u60, u61, u62, u63, u64, u65, u66, u67, u68, u69, u70, u71, rfl, rfl, H⟩ hall
          obtain rfl : l13 = true := by simpa using hall 13 (by decide)
          obtain ⟨w8, hg8, ho8, hg9⟩ := H.s13 rfl
          dsimp only
          have F7 : wr.drew.grownBy w' (some mb) := gb_trans (gb_but hg8 _) hg9
          have RJ : w'.rowIs jb 56 5 fj := rowIs_grown (rowIs_grown (rowIs_grown HJ.out.1 HG5.out (by simp)) F3.out (by simp; omega)).drew F7 (by simp; exact hjm)
          have RB := rowIs_grown (rowIs_grown HB5.out F3.out (by simp)).drew F7 (by simp; omega)
          have RQ := rowIs_grown F1.out.drew F7 (by simp; omega)
          have k1 := RJ.cell (i := 1) (by omega)
          rw [HJ.out.2.2] at k1
          have z1 := RJ.frozen 1
          have HZ : Hid (Held w (w'.setCell ⟨jb, 1, none⟩ (.int .u64 ((k : Int) + 1))) jb mb k m t n D) := by
            refine ⟨B, HB3.out, hold_cells (RB.setOther (by simp; omega) _) (RQ.setOther (by simp; omega) _) F2.out HLT.out, ho8.setCell (fun e => hjm e.symm) _, ⟨_, RJ.set 1 _, by first | (simp; done) | simp [HJ.out.2.1], by simp⟩, ?_⟩
            exact kept2_of HG5.out F3.out F7 HB3.out _
          clear RJ RB RQ F7 ho8 hg8 hg9 H hall
          go_wp2
          go_end0
          exact ⟨rfl, HZ.out⟩

set_option maxRecDepth 100000 in
set_option maxHeartbeats 2000000 in
theorem hold_none (jb sn sc : Nat) (sa : Option Addr) (k : Nat) (m : HM) (v : World) (hm : m.Wf) (hsn : sn ≤ 254) (hk : k < 4096) (h0 : -9223372036854775808 ≤ m.lat) (h1 : m.lat ≤ 9223372036854775807)
    (fj : Nat → Value) (hJ : v.rowIs jb 56 5 fj) (e0 : fj 0 = .map none) (e1 : fj 1 = .int .u64 (k : Int)) (hq : ∀ t, t < sn → ∃ sad : Addr, sa = some sad ∧ sad.block ≠ jb ∧ v.cell? (sad.add t) = some (.int .i64 (m.q t))) :
    Calls Try.prog 25 #[.pointer (some ⟨jb, 0, none⟩), .string m.o, .int .u8 m.ty, .int .i64 m.ref, .int .i64 m.tot, .int .u8 m.el, .slice sa sn sc, .int .i64 m.lat] v fun e w' => e = .returned (.tuple #[]) ∧ Hid (∃ w, v.heap.size < w.heap.size ∧ v.grownBy w (some jb) ∧ Held w w' jb v.heap.size k m sn 0 (.map [])) := by
  have c0 := hJ.cell (i := 0) (by omega)
  rw [e0] at c0
  have z0 := hJ.frozen 0
  have hjv := hJ.lt
  have HJv : Hid (v.rowIs jb 56 5 fj ∧ fj 1 = .int .u64 (k : Int)) := ⟨hJ, e1⟩
  have HQv : Hid (∀ t, t < sn → ∃ sad : Addr, sa = some sad ∧ sad.block ≠ jb ∧ v.cell? (sad.add t) = some (.int .i64 (m.q t))) := hq
  clear hJ e0 e1 hq
  obtain ⟨lat, hlat⟩ : ∃ x, m.lat = x := ⟨_, rfl⟩
  have HLT : Hid (m.lat = lat) := hlat
  rw [hlat] at h0 h1 ⊢
  clear hlat
  have hmm := @run_makeMap Try.prog
  have hmn := fun w => run_eql_map_nil (P := Try.prog) w 52 78 63 none Try.underlying52
  go_enter Try.func25, Try.ntmps25
  go_wp2_with fail
  clear hmm hmn c0 z0
  obtain ⟨w, hw⟩ : ∃ w, (v.setCell ⟨jb, 0, none⟩ (.map (some v.heap.size))).alloc (.map #[] 0) = w := ⟨_, rfl⟩
  rw [hw]
  obtain ⟨mb, hmb⟩ : ∃ mb, v.heap.size = mb := ⟨_, rfl⟩
  have HJ : Hid (w.rowIs jb 56 5 (fun j => if j = 0 then .map (some mb) else fj j) ∧ (if 0 = 0 then (.map (some mb) : Value) else fj 0) = .map (some mb) ∧ (if 1 = 0 then (.map (some mb) : Value) else fj 1) = .int .u64 (k : Int)) := by
    refine ⟨?_, if_pos rfl, by rw [if_neg (by decide)]; exact HJv.out.2⟩
    rw [← hw, ← hmb]
    exact (HJv.out.1.set 0 _).alloc _
  have HO : Hid (w.ownsMap Try.prog 78 RP mb 0 (.map [])) := by
    (show w.ownsMap Try.prog 78 RP mb 0 (.map []))
    rw [← hw, ← hmb]
    have := World.ownsMap_made (v.setCell ⟨jb, 0, none⟩ (.map (some v.heap.size))) Try.prog 78 RP
    rwa [show (v.setCell ⟨jb, 0, none⟩ (.map (some v.heap.size))).heap.size = v.heap.size by simp [World.setCell]] at this
  have HVW : Hid (v.heap.size < w.heap.size ∧ v.grownBy w (some jb)) := by
    (show _ ∧ _)
    rw [← hw]
    exact ⟨by simp [World.setCell], gb_alloc (gb_setCell (gb_refl _ _) (.inr rfl) _) _⟩
  have HQ : Hid (∀ t, t < sn → ∃ sad : Addr, sa = some sad ∧ w.cell? (sad.add t) = some (.int .i64 (m.q t))) := by
    intro t ht
    obtain ⟨sad, e, hne, hc⟩ := HQv.out t ht
    exact ⟨sad, e, HVW.out.2.cell hc (by simp; intro h; exact hne (by rw [← h]; unfold Addr.add; split <;> rfl))⟩
  have hjm : jb ≠ mb := by omega
  have hn : 0 < maxLen := by unfold maxLen; omega
  have c0 := HJ.out.1.cell (i := 0) (by omega)
  have c1 := HJ.out.1.cell (i := 1) (by omega)
  simp only [if_true] at c0
  have e1' := HJ.out.2.2
  rw [e1'] at c1
  have HMB : Hid (v.heap.size = mb) := hmb
  rw [hmb] at HVW ⊢
  clear e1' hw hmb hjv HJv HQv
  refine wp_region_any (by kernel_rfl) ?_
  change wpAny _ _ _ _ _ _ _ (World.drew _)
  refine wpAny_inv (RI2 _ _ _ _ _ _ _ _ _ _ _ _ _ _ _ _ _ _ _ _ _ _ _ _ _ _ _ _ _ _ _ _ _ _ _ _ _ _ _ _ _ _ _ _ _ _ _ _ _ _ _ _ _ _ _ _ _ _ _ _ _ _ _ _ _ _ _ w.drew jb k lat) ?size ?ord ?step ?fin _ _ _ _ ⟨false, false, false, false, false, false, false, false, false, false, _, _, _, _, _, _, _, _, _, _, rfl, rfl, by constructor <;> first | (intro h; cases h) | exact gb_refl _ _⟩ (by decide)
  case size =>
    rintro L act w' ⟨l0, l1, l2, l3, l4, l5, l6, l7, l8, l9, u27, u28, u29, u30, u31, u32, u33, u34, u35, u16, rfl, rfl, _⟩
    rfl
  case ord => exact ordered (by kernel_rfl)
  case step =>
    rintro L act w' ⟨l0, l1, l2, l3, l4, l5, l6, l7, l8, l9, u27, u28, u29, u30, u31, u32, u33, u34, u35, u16, rfl, rfl, H⟩ i hi
    obtain ⟨hun, o, ho, hdep⟩ := mem_ready.1 hi
    have hi10 : i < 10 := (Array.getElem?_eq_some_iff.1 ho).1
    obtain rfl | rfl | rfl | rfl | rfl | rfl | rfl | rfl | rfl | rfl : i = 0 ∨ i = 1 ∨ i = 2 ∨ i = 3 ∨ i = 4 ∨ i = 5 ∨ i = 6 ∨ i = 7 ∨ i = 8 ∨ i = 9 := by omega
    all_goals (simp at ho; subst ho; simp [Region.binds] at hun hdep; subst hun)
    · exact wpOp_val rfl rfl (v := .pointer (some ⟨jb, 0, none⟩)) (w' := w') (by go_simp) ⟨_, _, _, _, _, _, _, _, _, _, _, _, _, _, _, _, _, _, _, _, rfl, rfl, { H with f0 := fun _ => rfl }⟩
    · subst hdep
      obtain rfl := H.f0 rfl
      exact wpOp_val rfl rfl (v := .pointer (some ⟨jb, 0, none⟩)) (w' := w') (by go_simp) ⟨_, _, _, _, _, _, _, _, _, _, _, _, _, _, _, _, _, _, _, _, rfl, rfl, { H with f1 := fun _ => rfl }⟩
    · subst hdep
      obtain rfl := H.f1 rfl
      exact wpOp_val rfl rfl (v := .pointer (some ⟨jb, 1, none⟩)) (w' := w') (by go_simp) ⟨_, _, _, _, _, _, _, _, _, _, _, _, _, _, _, _, _, _, _, _, rfl, rfl, { H with f2 := fun _ => rfl }⟩
    · subst hdep
      obtain rfl := H.f2 rfl
      have hc := H.gw.cell c1 (by simp)
      exact wpOp_val rfl rfl (v := .int .u64 k) (w' := w') (by go_simp) ⟨_, _, _, _, _, _, _, _, _, _, _, _, _, _, _, _, _, _, _, _, rfl, rfl, { H with f3 := fun _ => rfl }⟩
    · exact wpOp_val rfl rfl (v := .agg #[.int .u64 0, .int .i64 0, .pointer none]) (w' := w') (by go_simp) ⟨_, _, _, _, _, _, _, _, _, _, _, _, _, _, _, _, _, _, _, _, rfl, rfl, { H with f4 := fun _ => rfl }⟩
    · exact wpOp_val rfl rfl (v := .int .i64 lat) (w' := w') (by go_simp) ⟨_, _, _, _, _, _, _, _, _, _, _, _, _, _, _, _, _, _, _, _, rfl, rfl, { H with f5 := fun _ => rfl }⟩
    · obtain ⟨rfl, rfl⟩ := hdep
      obtain rfl := H.f4 rfl
      obtain rfl := H.f5 rfl
      obtain rfl : l7 = false := by cases l7 with | false => rfl | true => cases H.g7 rfl
      obtain rfl : l8 = false := by cases l8 with | false => rfl | true => cases H.g8 rfl
      refine wpOp_call rfl rfl (f := 27) (args := #[.agg #[.int .u64 0, .int .i64 0, .pointer none], .int .i64 lat]) (w' := w') (by go_simp) ?_
      refine (add_runs lat h0 h1 w').mono ?_
      rintro e w2 ⟨rfl, hg⟩
      exact ⟨_, rfl, ⟨_, _, _, _, _, _, _, _, _, _, _, _, _, _, _, _, _, _, _, _, rfl, rfl, { H with f6 := fun _ => rfl, g7 := fun h => (by cases h), gw := gb_trans H.gw hg.out, s8 := fun h => (by cases h) }⟩⟩
    · obtain ⟨rfl, rfl⟩ := hdep
      obtain rfl := H.f3 rfl
      obtain rfl := H.f6 rfl
      obtain rfl : l8 = false := by cases l8 with | false => rfl | true => cases H.g8 rfl
      have hb := build76 k (lat % 1000000000) (lat / 1000000000) w'
      exact wpOp_val rfl rfl (v := .agg (heldCells k (lat % 1000000000) (lat / 1000000000))) (w' := w') (by simp [execOp, Act.eval, T, hb, Result.andThen]) ⟨_, _, _, _, _, _, _, _, _, _, _, _, _, _, _, _, _, _, _, _, rfl, rfl, { H with f7 := fun _ => rfl, g7 := fun _ => rfl, g8 := fun h => (by cases h) }⟩
    · subst hdep
      obtain rfl := H.f7 rfl
      obtain rfl : l9 = false := by cases l9 with | false => rfl | true => cases H.g9 rfl
      have hbx : (Instr.box 76 (.agg (heldCells k (lat % 1000000000) (lat / 1000000000)))).run Try.prog w' = .ok (.pointer (some ⟨w'.heap.size, 0, none⟩)) (w'.alloc (.cells (heldCells k (lat % 1000000000) (lat / 1000000000)) 76)) := by
        simp [Instr.box, newVar, newRow, Value.cells]
      exact wpOp_val rfl rfl (v := .pointer (some ⟨w'.heap.size, 0, none⟩)) (w' := w'.alloc (.cells (heldCells k (lat % 1000000000) (lat / 1000000000)) 76)) (by simp [execOp, Act.eval, hbx, Result.andThen]) ⟨_, _, _, _, _, _, _, _, _, _, _, _, _, _, _, _, _, _, _, _, rfl, rfl, { H with f9 := fun h => (by cases h), g8 := fun _ => rfl, g9 := fun h => (by cases h), gw := gb_alloc H.gw _, s8 := fun _ => ⟨w', H.gw, rfl, rfl⟩ }⟩
    · obtain rfl : l8 = true := by simpa using hdep.1
      obtain ⟨w2, hg2, rfl, hw2⟩ := H.s8 rfl
      exact wpOp_val rfl rfl (v := .pointer (some ⟨w2.heap.size, 0, none⟩)) (w' := w') (by go_simp) ⟨_, _, _, _, _, _, _, _, _, _, _, _, _, _, _, _, _, _, _, _, rfl, rfl, { H with f9 := fun _ => rfl, g9 := fun _ => rfl }⟩
  case fin =>
    rintro L act w' ⟨l0, l1, l2, l3, l4, l5, l6, l7, l8, l9, u27, u28, u29, u30, u31, u32, u33, u34, u35, u16, rfl, rfl, H⟩ hall
    obtain rfl : l0 = true := by simpa using hall 0 (by decide)
    obtain rfl : l1 = true := by simpa using hall 1 (by decide)
    obtain rfl : l2 = true := by simpa using hall 2 (by decide)
    obtain rfl : l3 = true := by simpa using hall 3 (by decide)
    obtain rfl : l4 = true := by simpa using hall 4 (by decide)
    obtain rfl : l5 = true := by simpa using hall 5 (by decide)
    obtain rfl : l6 = true := by simpa using hall 6 (by decide)
    obtain rfl : l7 = true := by simpa using hall 7 (by decide)
    obtain rfl : l8 = true := by simpa using hall 8 (by decide)
    obtain rfl : l9 = true := by simpa using hall 9 (by decide)
    obtain rfl := H.f0 rfl
    obtain rfl := H.f1 rfl
    obtain rfl := H.f2 rfl
    obtain rfl := H.f3 rfl
    obtain rfl := H.f4 rfl
    obtain rfl := H.f5 rfl
    obtain rfl := H.f6 rfl
    obtain rfl := H.f7 rfl
    obtain rfl := H.f9 rfl
    obtain ⟨w2, hg2, rfl, rfl⟩ := H.s8 rfl
    clear H hall
    dsimp only
    have G2 : w.grownBy w2 none := gb_trans (gb_drew (gb_refl _ _)) hg2
    have hB2 : (w2.alloc (.cells (heldCells k (lat % 1000000000) (lat / 1000000000)) 76)).rowIs w2.heap.size 76 453 (fun i => (heldCells k (lat % 1000000000) (lat / 1000000000)).getD i undef) := by
      have := World.rowIs_alloc w2 (heldCells k (lat % 1000000000) (lat / 1000000000)) 76 (fun i => (heldCells k (lat % 1000000000) (lat / 1000000000)).getD i undef) (fun i hi => by simp [Array.getD, hi])
      rwa [heldCells_size] at this
    have hj : jb < w2.heap.size := Nat.lt_of_lt_of_le (block_lt_of_cell c0) G2.size
    have hmlt : mb < w2.heap.size := Nat.lt_of_lt_of_le HO.out.lt G2.size
    have G3 : Hid (w.grownBy (w2.alloc (.cells (heldCells k (lat % 1000000000) (lat / 1000000000)) 76)) none) := gb_alloc G2 _
    have hs3 : (w2.alloc (.cells (heldCells k (lat % 1000000000) (lat / 1000000000)) 76)).heap.size = w2.heap.size + 1 := by simp
    have HB3 : Hid (w.heap.size ≤ w2.heap.size) := G2.size
    obtain ⟨B, hBe⟩ : ∃ B, w2.heap.size = B := ⟨_, rfl⟩
    rw [hBe] at hB2 hj hmlt hs3 HB3 ⊢
    have c0' := G3.out.cell c0 (by simp)
    have c1' := G3.out.cell c1 (by simp)
    generalize (w2.alloc (.cells (heldCells k (lat % 1000000000) (lat / 1000000000)) 76)) = w3 at *
    have R3 : Hid (w3.rowIs B 76 453 (fun i => (heldCells k (lat % 1000000000) (lat / 1000000000)).getD i undef)) := hB2
    clear hg2 G2 hB2 hBe w2
    obtain ⟨i0, hi, hz0, hz1, hz2⟩ := info_parts info72
    go_wp2_with (first | (at_make; refine wpList_make_full _ rfl _ _ 66 rfl w3.heap.size 72 i0 _ 8 Try.underlying66 hi hz0 hz1 _ _ _ _ sn rfl rfl rfl rfl (by rw [hz2]; omega) (by unfold maxLen; omega) (Nat.le_refl _) ?_; intro w4 hown4 hgrow4; have r4 := rowIs_grown R3.out hgrow4 (by simp); have k7 := r4.cell (i := 7) (by omega); have z7 := r4.frozen 7))
    rw [hs3] at hown4
    obtain ⟨f0, hQ4, hI4⟩ := row_ints hown4
    have HI4 : Hid (IntsTo f0 (sn * 8)) := hI4
    clear hI4
    have HQ5 : Hid ((w4.setCell ⟨B, 7, none⟩ (.slice (some ⟨B + 1, 0, none⟩) sn sn)).rowIs (B + 1) 72 (sn * 8) f0) := hQ4.setOther (by simp) _
    have HB5 : Hid ((w4.setCell ⟨B, 7, none⟩ (.slice (some ⟨B + 1, 0, none⟩) sn sn)).rowIs B 76 453 (fun j => if j = 7 then .slice (some ⟨B + 1, 0, none⟩) sn sn else (heldCells k (lat % 1000000000) (lat / 1000000000)).getD j undef)) := r4.set 7 _
    have HG5 : Hid (w.grownBy (w4.setCell ⟨B, 7, none⟩ (.slice (some ⟨B + 1, 0, none⟩) sn sn)) none) := gb_setCell (gb_trans G3.out hgrow4) (.inl HB3.out) _
    clear hown4 hgrow4 r4 k7 z7 hQ4 R3 G3 c0' c1' hs3
    generalize (w4.setCell ⟨B, 7, none⟩ (.slice (some ⟨B + 1, 0, none⟩) sn sn)) = w5 at *
    go_loopw [44] (fun i wr => ∃ t : Nat, t ≤ sn ∧ i = .int .i64 t ∧ Hid (∃ f, wr.rowIs (B + 1) 72 (sn * 8) f ∧ ((∀ j, j < t → f (j * 8) = .int .i64 (m.q j)) ∧ IntsTo f (sn * 8)) ∧ w5.grownBy wr (some (B + 1)))) (fun i _ => sn - (intOf i).toNat)
    case atStart => exact ⟨0, Nat.zero_le _, rfl, f0, HQ5.out, ⟨fun j hj => absurd hj (by omega), HI4.out⟩, gb_refl _ _⟩
    case round =>
      obtain ⟨t, ht, rfl, H⟩ := hrel
      obtain ⟨f, hf1, hf2, hf3⟩ := H.out
      by_cases hlt : t < sn
      · obtain ⟨sad, rfl, cs⟩ := HQ.out t hlt
        have cs' := hf3.cell (HG5.out.cell cs (by simp)) (by have := block_lt_of_cell cs; have := HB3.out; simp; omega)
        have k7 := (rowIs_grown HB5.out hf3 (by simp)).cell (i := 7) (by omega)
        simp only [if_true] at k7
        have kq := hf1.cell (i := t * 8) (by omega)
        have zq := hf1.frozen (t * 8)
        have F1 : Hid (wr.rowIs (B + 1) 72 (sn * 8) f) := hf1
        have F2 : Hid ((∀ j, j < t → f (j * 8) = .int .i64 (m.q j)) ∧ IntsTo f (sn * 8)) := hf2
        have F3 : Hid (w5.grownBy wr (some (B + 1))) := hf3
        clear H hf1 hf2 hf3 cs
        go_wp2_with fail
        go_region
        all_goals go_wp2
        all_goals
          refine ⟨⟨t + 1, by omega, by simp, _, (F1.out.set (t * 8) (.int .i64 (m.q t))).drew, ⟨fun j hj => ?_, ints_set F2.out.2 _ _ _⟩, gb_drew (gb_setCell F3.out (.inr rfl) _)⟩, by simp [intOf]; omega⟩
          by_cases e : j = t
          · rw [if_pos (by rw [e]), e]
          · rw [if_neg (by omega)]; exact F2.out.1 j (by omega)
      · obtain rfl : t = sn := by omega
        have F1 : Hid (wr.rowIs (B + 1) 72 (t * 8) f) := hf1
        have F2 : Hid ((∀ j, j < t → f (j * 8) = .int .i64 (m.q j)) ∧ IntsTo f (t * 8)) := hf2
        have F3 : Hid (w5.grownBy wr (some (B + 1))) := hf3
        have HOr : Hid (wr.drew.ownsMap Try.prog 78 RP mb 0 (.map [])) := ((HO.out.kept HG5.out (by simp)).kept hf3 (by have := HO.out.lt; have := HB3.out; simp; omega)).drew
        have c0r : wr.drew.cell? ⟨jb, 0, none⟩ = some (.map (some mb)) := hf3.cell (HG5.out.cell c0 (by simp)) (by simp; omega)
        have c1r : wr.cell? ⟨jb, 1, none⟩ = some (.int .u64 (k : Int)) := hf3.cell (HG5.out.cell c1 (by simp)) (by simp; omega)
        clear H hf1 hf2 hf3
        go_wp2_with fail
        refine wp_region_any (by kernel_rfl) ?_
        change wpAny _ _ _ _ _ _ _ (World.drew _)
        refine wpAny_inv (RI9 _ _ _ _ _ _ _ _ _ _ _ _ _ _ _ _ _ _ _ _ _ _ _ _ _ _ _ _ _ _ _ _ _ _ _ _ _ _ _ _ _ _ _ _ _ _ _ _ _ _ _ _ _ _ _ _ _ _ _ wr.drew jb mb B 0 m (.map [])) ?size ?ord ?step ?fin _ _ _ _ ⟨false, false, false, false, false, false, false, false, false, false, false, false, false, false, _, _, _, _, _, _, _, _, _, _, _, _, _, rfl, rfl, by constructor <;> first | (intro h; cases h; done) | exact fun _ => gb_refl _ _⟩ (by decide)
        case size =>
          rintro L act w' ⟨l0, l1, l2, l3, l4, l5, l6, l7, l8, l9, l10, l11, l12, l13, u59, u60, u61, u62, u63, u64, u65, u66, u67, u68, u69, u70, u71, rfl, rfl, _⟩
          rfl
        case ord => exact ordered (by kernel_rfl)
        case step =>
          rintro L act w' ⟨l0, l1, l2, l3, l4, l5, l6, l7, l8, l9, l10, l11, l12, l13, u59, u60, u61, u62, u63, u64, u65, u66, u67, u68, u69, u70, u71, rfl, rfl, H⟩ i hi
          obtain ⟨hun, o, ho, hdep⟩ := mem_ready.1 hi
          have hi14 : i < 14 := (Array.getElem?_eq_some_iff.1 ho).1
          obtain rfl | rfl | rfl | rfl | rfl | rfl | rfl | rfl | rfl | rfl | rfl | rfl | rfl | rfl : i = 0 ∨ i = 1 ∨ i = 2 ∨ i = 3 ∨ i = 4 ∨ i = 5 ∨ i = 6 ∨ i = 7 ∨ i = 8 ∨ i = 9 ∨ i = 10 ∨ i = 11 ∨ i = 12 ∨ i = 13 := by omega
          all_goals (simp at ho; subst ho; simp [Region.binds] at hun hdep; subst hun)
          · exact wpOp_val rfl rfl (v := .pointer (some ⟨jb, 0, none⟩)) (w' := w') (by go_simp) ⟨_, _, _, _, _, _, _, _, _, _, _, _, _, _, _, _, _, _, _, _, _, _, _, _, _, _, _, rfl, rfl, { H with f0 := fun _ => rfl }⟩
          · subst hdep
            obtain rfl := H.f0 rfl
            exact wpOp_val rfl rfl (v := .pointer (some ⟨jb, 0, none⟩)) (w' := w') (by go_simp) ⟨_, _, _, _, _, _, _, _, _, _, _, _, _, _, _, _, _, _, _, _, _, _, _, _, _, _, _, rfl, rfl, { H with f1 := fun _ => rfl }⟩
          · subst hdep
            obtain rfl := H.f1 rfl
            exact wpOp_val rfl rfl (v := .pointer (some ⟨jb, 0, none⟩)) (w' := w') (by go_simp) ⟨_, _, _, _, _, _, _, _, _, _, _, _, _, _, _, _, _, _, _, _, _, _, _, _, _, _, _, rfl, rfl, { H with f2 := fun _ => rfl }⟩
          · subst hdep
            obtain rfl := H.f2 rfl
            obtain rfl : l13 = false := by cases l13 with | false => rfl | true => cases (H.g13 rfl).1
            have hc := (H.gw rfl).cell c0r (by simp)
            exact wpOp_val rfl rfl (v := .map (some mb)) (w' := w') (by go_simp) ⟨_, _, _, _, _, _, _, _, _, _, _, _, _, _, _, _, _, _, _, _, _, _, _, _, _, _, _, rfl, rfl, { H with f3 := fun _ => rfl, g13 := fun h => (by cases h) }⟩
          · exact wpOp_val rfl rfl (v := .int .u8 m.ty) (w' := w') (by go_simp) ⟨_, _, _, _, _, _, _, _, _, _, _, _, _, _, _, _, _, _, _, _, _, _, _, _, _, _, _, rfl, rfl, { H with f4 := fun _ => rfl }⟩
          · exact wpOp_val rfl rfl (v := .string m.o) (w' := w') (by go_simp) ⟨_, _, _, _, _, _, _, _, _, _, _, _, _, _, _, _, _, _, _, _, _, _, _, _, _, _, _, rfl, rfl, { H with f5 := fun _ => rfl }⟩
          · obtain ⟨rfl, rfl⟩ := hdep
            obtain rfl := H.f4 rfl
            obtain rfl := H.f5 rfl
            exact wpOp_val rfl rfl (v := .agg #[.int .u8 m.ty, .string m.o]) (w' := w') (by go_simp) ⟨_, _, _, _, _, _, _, _, _, _, _, _, _, _, _, _, _, _, _, _, _, _, _, _, _, _, _, rfl, rfl, { H with f6 := fun _ => rfl }⟩
          · exact wpOp_val rfl rfl (v := .int .u8 m.el) (w' := w') (by go_simp) ⟨_, _, _, _, _, _, _, _, _, _, _, _, _, _, _, _, _, _, _, _, _, _, _, _, _, _, _, rfl, rfl, { H with f7 := fun _ => rfl }⟩
          · exact wpOp_val rfl rfl (v := .int .i64 m.ref) (w' := w') (by go_simp) ⟨_, _, _, _, _, _, _, _, _, _, _, _, _, _, _, _, _, _, _, _, _, _, _, _, _, _, _, rfl, rfl, { H with f8 := fun _ => rfl }⟩
          · exact wpOp_val rfl rfl (v := .int .i64 m.tot) (w' := w') (by go_simp) ⟨_, _, _, _, _, _, _, _, _, _, _, _, _, _, _, _, _, _, _, _, _, _, _, _, _, _, _, rfl, rfl, { H with f9 := fun _ => rfl }⟩
          · obtain ⟨rfl, rfl, rfl⟩ := hdep
            obtain rfl := H.f7 rfl
            obtain rfl := H.f8 rfl
            obtain rfl := H.f9 rfl
            exact wpOp_val rfl rfl (v := .agg #[.int .u8 m.el, .int .i64 m.ref, .int .i64 m.tot, .int .i64 0]) (w' := w') (by go_simp) ⟨_, _, _, _, _, _, _, _, _, _, _, _, _, _, _, _, _, _, _, _, _, _, _, _, _, _, _, rfl, rfl, { H with f10 := fun _ => rfl }⟩
          · obtain ⟨rfl, rfl⟩ := hdep
            obtain rfl := H.f6 rfl
            obtain rfl := H.f10 rfl
            obtain rfl : l13 = false := by cases l13 with | false => rfl | true => cases (H.g13 rfl).2
            refine wpOp_call rfl rfl (f := 31) (args := #[.agg #[.int .u8 m.ty, .string m.o], .agg #[.int .u8 m.el, .int .i64 m.ref, .int .i64 m.tot, .int .i64 0]]) (w' := w') (by go_simp) ?_
            refine (keyOf31 m 0 w').mono ?_
            rintro e w2 ⟨rfl, hg⟩
            exact ⟨_, rfl, ⟨_, _, _, _, _, _, _, _, _, _, _, _, _, _, _, _, _, _, _, _, _, _, _, _, _, _, _, rfl, rfl, { H with f11 := fun _ => rfl, g13 := fun h => (by cases h), gw := fun _ => gb_trans (H.gw rfl) hg.out, s13 := fun h => (by cases h) }⟩⟩
          · exact wpOp_val rfl rfl (v := .pointer (some ⟨B, 0, none⟩)) (w' := w') (by go_simp) ⟨_, _, _, _, _, _, _, _, _, _, _, _, _, _, _, _, _, _, _, _, _, _, _, _, _, _, _, rfl, rfl, { H with f12 := fun _ => rfl }⟩
          · obtain rfl : l3 = true := by simpa using hdep.1
            obtain rfl : l11 = true := by simpa using hdep.2.1
            obtain rfl : l12 = true := by simpa using hdep.2.2.1
            obtain rfl := H.f3 rfl
            obtain rfl := H.f11 rfl
            obtain rfl := H.f12 rfl
            have how : w'.ownsMap Try.prog 78 RP mb 0 (.map []) := HOr.out.kept (H.gw rfl) (by simp)
            obtain ⟨w2, hrun, r1, r2⟩ := how.update law Try.underlying52 hn (keyOf_mk m hm) (val := .pointer (some ⟨B, 0, none⟩)) (d := .lit (.int .i64 B)) (ps := []) rfl
            exact wpOp_skip rfl rfl (w' := w2) (by simp [execOp, Act.eval, hrun, Result.andThen]) ⟨_, _, _, _, _, _, _, _, _, _, _, _, _, _, _, _, _, _, _, _, _, _, _, _, _, _, _, rfl, rfl, { H with g13 := fun _ => ⟨rfl, rfl⟩, gw := fun h => (by cases h), s13 := fun _ => ⟨w', H.gw rfl, r1, r2⟩ }⟩
        case fin =>
          rintro L act w' ⟨l0, l1, l2, l3, l4, l5, l6, l7, l8, l9, l10, l11, l12, l13, u59, u60, u61, u62, u63, u64, u65, u66, u67, u68, u69, u70, u71, rfl, rfl, H⟩ hall
          obtain rfl : l13 = true := by simpa using hall 13 (by decide)
          obtain ⟨w8, hg8, ho8, hg9⟩ := H.s13 rfl
          dsimp only
          have F7 : wr.drew.grownBy w' (some mb) := gb_trans (gb_but hg8 _) hg9
          have RJ : w'.rowIs jb 56 5 (fun j => if j = 0 then .map (some mb) else fj j) := rowIs_grown (rowIs_grown (rowIs_grown HJ.out.1 HG5.out (by simp)) F3.out (by simp; omega)).drew F7 (by simp; exact hjm)
          have RB := rowIs_grown (rowIs_grown HB5.out F3.out (by simp)).drew F7 (by simp; omega)
          have RQ := rowIs_grown F1.out.drew F7 (by simp; omega)
          have k1 := RJ.cell (i := 1) (by omega)
          rw [HJ.out.2.2] at k1
          have z1 := RJ.frozen 1
          have HZ : Hid (Held w (w'.setCell ⟨jb, 1, none⟩ (.int .u64 ((k : Int) + 1))) jb mb k m t 0 (.map [])) := by
            refine ⟨B, HB3.out, hold_cells (RB.setOther (by simp; omega) _) (RQ.setOther (by simp; omega) _) F2.out HLT.out, ho8.setCell (fun e => hjm e.symm) _, ⟨_, RJ.set 1 _, by first | (simp; done) | simp [HJ.out.2.1], by simp⟩, ?_⟩
            exact kept2_of HG5.out F3.out F7 HB3.out _
          clear RJ RB RQ F7 ho8 hg8 hg9 H hall
          go_wp2
          go_end0
          refine ⟨rfl, w, ?_⟩
          rw [HMB.out]
          exact ⟨HVW.out.1, HVW.out.2, HZ.out⟩
end Go.Proofs.Qxb6613072a
