/- Expire: the messages that incomplete gives are struck off the map. -/
import Derived.Test.Qxb6613072aJoin
import Derived.Deep.LoopGhost
namespace Go.Proofs.Qxb6613072a
open Go.RowKit Go.Maps

/-- region 5 of Expire: what holds when the operations with a mark have run -/
structure RF5x (W1 : World) (jb kb mb n : Nat) (m : HM) (D : DataW Unit) (l0 l1 l2 l3 l4 l5 l6 l7 l8 l9 l10 l11 l12 l13 l14 : Bool) (u17 u18 u19 u20 u21 u22 u23 u24 u25 u26 u27 u28 u29 u30 : Value) (w : World) : Prop where
  f0 : l0 = true → u17 = .pointer (some ⟨jb, 0, none⟩)
  f1 : l1 = true → u18 = .pointer (some ⟨jb, 0, none⟩)
  f2 : l2 = true → u19 = .pointer (some ⟨jb, 0, none⟩)
  f3 : l3 = true → u20 = .map (some mb)
  f4 : l4 = true → u21 = .pointer (some ⟨kb, 0, none⟩)
  f5 : l5 = true → u22 = .agg #[.int .u8 m.ty, .string m.o]
  f6 : l6 = true → u23 = .pointer (some ⟨kb, 2, none⟩)
  f7 : l7 = true → u24 = .int .u8 m.el
  f8 : l8 = true → u25 = .pointer (some ⟨kb, 3, none⟩)
  f9 : l9 = true → u26 = .int .i64 m.ref
  f10 : l10 = true → u27 = .pointer (some ⟨kb, 4, none⟩)
  f11 : l11 = true → u28 = .int .i64 m.tot
  f12 : l12 = true → u29 = .agg #[.int .u8 m.el, .int .i64 m.ref, .int .i64 m.tot, .int .i64 0]
  f13 : l13 = true → u30 = keyV m
  gw : W1.grownBy w (some mb)
  own : l14 = false → w.ownsMap Try.prog 78 RP mb n D
  s14 : l14 = true → w.ownsMap Try.prog 78 RP mb n (D.del (klit m))

def RI5x (t1 t2 t3 t4 t5 t6 t8 t9 t10 t11 t12 t13 t14 t15 t16 t31 t32 : Value) (W1 : World) (jb kb mb n : Nat) (m : HM) (D : DataW Unit) (L : Array Bool) (act : Act) (w : World) : Prop :=
  ∃ (l0 l1 l2 l3 l4 l5 l6 l7 l8 l9 l10 l11 l12 l13 l14 : Bool) (u17 u18 u19 u20 u21 u22 u23 u24 u25 u26 u27 u28 u29 u30 : Value), L = #[l0, l1, l2, l3, l4, l5, l6, l7, l8, l9, l10, l11, l12, l13, l14] ∧ act = { tmps := #[.pointer (some ⟨jb, 0, none⟩), t1, t2, t3, t4, t5, t6, .pointer (some ⟨kb, 0, none⟩), t8, t9, t10, t11, t12, t13, t14, t15, t16, u17, u18, u19, u20, u21, u22, u23, u24, u25, u26, u27, u28, u29, u30, t31, t32], defers := [] } ∧ RF5x W1 jb kb mb n m D l0 l1 l2 l3 l4 l5 l6 l7 l8 l9 l10 l11 l12 l13 l14 u17 u18 u19 u20 u21 u22 u23 u24 u25 u26 u27 u28 u29 u30 w

theorem exOut_base {M : Nat → HM} {Hd : Nat → Prop} {pb : Nat → Nat} {y : Int} {w W1 w' : World} {jb : Nat} {mo : Option Nat} {L lb : Nat} {ix : Nat → Nat} (g : w.grownBy W1 none) (h : ExOut M Hd pb y W1 jb mo L lb ix w') : ExOut M Hd pb y w jb mo L lb ix w' :=
  ⟨gb_trans (gb_but g _) h.gb, h.le, h.enum, fun t ht => by obtain ⟨hb, h1, h2⟩ := h.ents t ht; exact ⟨hb, Nat.le_trans g.size h1, h2⟩, Nat.le_trans g.size h.hlb, h.jh⟩

set_option maxRecDepth 100000 in
set_option maxHeartbeats 4000000 in
theorem exp26 {M : Nat → HM} {Hd : Nat → Prop} {pb : Nat → Nat} (jb : Nat) (mo : Option Nat) (y : Int) (w : World) (hJ : JHo M Hd pb w jb mo)
    (hInc : ∀ (W : World) (tb : Nat), JHo M Hd pb W jb mo → W.cell? ⟨tb, 0, none⟩ = some (.int .u64 (y % 1000000000)) → W.cell? ⟨tb, 1, none⟩ = some (.int .i64 (y / 1000000000)) → W.cell? ⟨tb, 2, none⟩ = some (.pointer none) →
      Calls Try.prog 29 #[.pointer (some ⟨jb, 0, none⟩), .func (.func 32) #[] #[.pointer (some ⟨tb, 0, none⟩)]] W fun e w' => ∃ lb L c ix, e = .returned (.slice (some ⟨lb, 0, none⟩) L c) ∧ Hid (IncOut M Hd y W L lb ix w')) :
    Calls Try.prog 26 #[.pointer (some ⟨jb, 0, none⟩), T y] w fun e w' => ∃ lb L c ix, e = .returned (.slice (some ⟨lb, 0, none⟩) L c) ∧ Hid (ExOut M Hd pb y w jb mo L lb ix w') := by
  have HJ : Hid (JHo M Hd pb w jb mo) := hJ
  clear hJ
  have HY : Hid (∀ W : World, JHo M Hd pb W jb mo → Calls Try.prog 29 #[.pointer (some ⟨jb, 0, none⟩), .func (.func 32) #[] #[.pointer (some ⟨W.heap.size, 0, none⟩)]] (W.alloc (.cells #[.int .u64 (y % 1000000000), .int .i64 (y / 1000000000), .pointer none] 43)) fun e w' => ∃ lb L c ix, e = .returned (.slice (some ⟨lb, 0, none⟩) L c) ∧ Hid (IncOut M Hd y (W.alloc (.cells #[.int .u64 (y % 1000000000), .int .i64 (y / 1000000000), .pointer none] 43)) L lb ix w')) :=
    fun W h => hInc _ W.heap.size (h.grown (gb_alloc (gb_refl _ _) _)) (by simp) (by simp) (by simp)
  clear hInc
  unfold T
  generalize y % 1000000000 = yn at *
  generalize y / 1000000000 = ys at *
  go_enter Try.func26, Try.ntmps26
  go_wp2_with (first | (go_at_call 29; refine (HY.out w HJ.out).mono ?_; rintro e w2 ⟨lb, L, c, ix, rfl, HI⟩))
  have HG1 : Hid (w.grownBy (w.alloc (.cells #[.int .u64 yn, .int .i64 ys, .pointer none] 43)) none) := gb_alloc (gb_refl _ _) _
  have HJ1 : Hid (JHo M Hd pb (w.alloc (.cells #[.int .u64 yn, .int .i64 ys, .pointer none] 43)) jb mo) := HJ.out.grown HG1.out
  have HLL : Hid (L ≤ 4096) := HI.out.le
  generalize (w.alloc (.cells #[.int .u64 yn, .int .i64 ys, .pointer none] 43)) = W1 at *
  clear HY HJ
  go_loopw [13] (fun i wr => ∃ t : Nat, t ≤ L ∧ i = .int .i64 t ∧ Hid (ExR M Hd pb y W1 jb mo L lb ix t wr)) (fun i _ => L - (intOf i).toNat)
  case atStart => exact ⟨0, Nat.zero_le _, rfl, exR_start HJ1.out HI.out⟩
  case round =>
    obtain ⟨t, ht, rfl, HR⟩ := hrel
    have hL := HLL.out
    by_cases hlt : t < L
    · obtain ⟨hb, _, e0, e1, e2, e3, e4, e5, e6, e7, e8, _⟩ := HR.out.ents t hlt
      obtain ⟨mb, rfl⟩ : ∃ mb, mo = some mb := by
        cases mo with
        | none => exact absurd (HI.out.enum.mem t hlt).1 (HJ1.out.no rfl _)
        | some mb => exact ⟨mb, rfl⟩
      obtain ⟨n, D, hn, ho, hmap⟩ := HR.out.own mb rfl
      have HO : Hid (wr.ownsMap Try.prog 78 RP mb n D) := ho
      have HMP : Hid (n ≤ 4096 ∧ MapIs M (fun i => Hd i ∧ ∀ s, s < t → ix s ≠ i) pb D) := ⟨hn, hmap⟩
      have hm := (HJ1.out.has mb rfl).wf (ix t) (HI.out.enum.mem t hlt).1
      have hjm := (HJ1.out.has mb rfl).jmb
      have hkm : wr.heap.size ≠ mb := by have := ho.lt; omega
      have kj0 : wr.cell? ⟨jb, 0, none⟩ = some (.map (some mb)) := HR.out.gb.cell HJ1.out.km (by simp; exact hjm)
      clear ho hn hmap
      have HE : Hid (ExR M Hd pb y W1 jb (some mb) L lb ix t wr) := HR.out
      clear HR
      obtain ⟨m, hmE⟩ : ∃ m, M (ix t) = m := ⟨_, rfl⟩
      rw [hmE] at e0 e1 e2 e3 e4 e5 e6 e7 hm
      have HME : Hid (M (ix t) = m) := hmE
      clear hmE
      go_wp2_with fail
      obtain ⟨kb, hkb⟩ : ∃ kb, wr.heap.size = kb := ⟨_, rfl⟩
      obtain ⟨cs, hcs⟩ : ∃ cs : Array Value, #[.int .u8 m.ty, .string m.o, .int .u8 m.el, .int .i64 m.ref, .int .i64 m.tot, .slice (some ⟨hb, 0, none⟩) m.sn m.sn, .int .u64 (m.lat % 1000000000), .int .i64 (m.lat / 1000000000), .pointer none] = cs := ⟨_, rfl⟩
      have b0 : (wr.alloc (.cells cs 45)).cell? ⟨wr.heap.size, 0, none⟩ = some (.int .u8 m.ty) := by subst hcs; simp
      have b1 : (wr.alloc (.cells cs 45)).cell? ⟨wr.heap.size, 1, none⟩ = some (.string m.o) := by subst hcs; simp
      have b2 : (wr.alloc (.cells cs 45)).cell? ⟨wr.heap.size, 2, none⟩ = some (.int .u8 m.el) := by subst hcs; simp
      have b3 : (wr.alloc (.cells cs 45)).cell? ⟨wr.heap.size, 3, none⟩ = some (.int .i64 m.ref) := by subst hcs; simp
      have b4 : (wr.alloc (.cells cs 45)).cell? ⟨wr.heap.size, 4, none⟩ = some (.int .i64 m.tot) := by subst hcs; simp
      have HGA : Hid (wr.grownBy (wr.alloc (.cells cs 45)).drew none) := gb_drew (gb_alloc (gb_refl _ _) _)
      have HOA : Hid ((wr.alloc (.cells cs 45)).drew.ownsMap Try.prog 78 RP mb n D) := (HO.out.alloc _).drew
      have kj : (wr.alloc (.cells cs 45)).cell? ⟨jb, 0, none⟩ = some (.map (some mb)) := HGA.out.cell kj0 (by simp)
      rw [hcs]
      rw [hkb] at b0 b1 b2 b3 b4 hkm ⊢
      clear e0 e1 e2 e3 e4 e5 e6 e7 e8 kj0 hcs HO hkb
      generalize (wr.alloc (.cells cs 45)) = WA at *
      refine wp_region_any (by kernel_rfl) ?_
      change wpAny _ _ _ _ _ _ _ (World.drew _)
      refine wpAny_inv (RI5x _ _ _ _ _ _ _ _ _ _ _ _ _ _ _ _ _ WA.drew jb kb mb n m D) ?size ?ord ?step ?fin _ _ _ _ ⟨false, false, false, false, false, false, false, false, false, false, false, false, false, false, false, _, _, _, _, _, _, _, _, _, _, _, _, _, _, rfl, rfl, by refine { f0 := ?_, f1 := ?_, f2 := ?_, f3 := ?_, f4 := ?_, f5 := ?_, f6 := ?_, f7 := ?_, f8 := ?_, f9 := ?_, f10 := ?_, f11 := ?_, f12 := ?_, f13 := ?_, gw := gb_refl _ _, own := fun _ => HOA.out, s14 := ?_ } <;> (intro h; cases h; done)⟩ (by decide)
      case size =>
        rintro L act w' ⟨l0, l1, l2, l3, l4, l5, l6, l7, l8, l9, l10, l11, l12, l13, l14, u17, u18, u19, u20, u21, u22, u23, u24, u25, u26, u27, u28, u29, u30, rfl, rfl, _⟩
        rfl
      case ord => exact ordered (by kernel_rfl)
      case step =>
        rintro L act w' ⟨l0, l1, l2, l3, l4, l5, l6, l7, l8, l9, l10, l11, l12, l13, l14, u17, u18, u19, u20, u21, u22, u23, u24, u25, u26, u27, u28, u29, u30, rfl, rfl, H⟩ i hi
        obtain ⟨hun, o, ho, hdep⟩ := mem_ready.1 hi
        have hi15 : i < 15 := (Array.getElem?_eq_some_iff.1 ho).1
        obtain rfl | rfl | rfl | rfl | rfl | rfl | rfl | rfl | rfl | rfl | rfl | rfl | rfl | rfl | rfl : i = 0 ∨ i = 1 ∨ i = 2 ∨ i = 3 ∨ i = 4 ∨ i = 5 ∨ i = 6 ∨ i = 7 ∨ i = 8 ∨ i = 9 ∨ i = 10 ∨ i = 11 ∨ i = 12 ∨ i = 13 ∨ i = 14 := by omega
        all_goals (simp at ho; subst ho; simp [Region.binds] at hun hdep; subst hun)
        · exact wpOp_val rfl rfl (v := .pointer (some ⟨jb, 0, none⟩)) (w' := w') (by go_simp) ⟨_, _, _, _, _, _, _, _, _, _, _, _, _, _, _, _, _, _, _, _, _, _, _, _, _, _, _, _, _, rfl, rfl, { H with f0 := fun _ => rfl }⟩
        · subst hdep
          obtain rfl := H.f0 rfl
          exact wpOp_val rfl rfl (v := .pointer (some ⟨jb, 0, none⟩)) (w' := w') (by go_simp) ⟨_, _, _, _, _, _, _, _, _, _, _, _, _, _, _, _, _, _, _, _, _, _, _, _, _, _, _, _, _, rfl, rfl, { H with f1 := fun _ => rfl }⟩
        · subst hdep
          obtain rfl := H.f1 rfl
          exact wpOp_val rfl rfl (v := .pointer (some ⟨jb, 0, none⟩)) (w' := w') (by go_simp) ⟨_, _, _, _, _, _, _, _, _, _, _, _, _, _, _, _, _, _, _, _, _, _, _, _, _, _, _, _, _, rfl, rfl, { H with f2 := fun _ => rfl }⟩
        · subst hdep
          obtain rfl := H.f2 rfl
          have hc := H.gw.cell kj (by simp; exact hjm)
          exact wpOp_val rfl rfl (v := .map (some mb)) (w' := w') (by go_simp) ⟨_, _, _, _, _, _, _, _, _, _, _, _, _, _, _, _, _, _, _, _, _, _, _, _, _, _, _, _, _, rfl, rfl, { H with f3 := fun _ => rfl }⟩
        · exact wpOp_val rfl rfl (v := .pointer (some ⟨kb, 0, none⟩)) (w' := w') (by go_simp) ⟨_, _, _, _, _, _, _, _, _, _, _, _, _, _, _, _, _, _, _, _, _, _, _, _, _, _, _, _, _, rfl, rfl, { H with f4 := fun _ => rfl }⟩
        · subst hdep
          obtain rfl := H.f4 rfl
          have hc0 := H.gw.cell b0 (by simp; exact hkm)
          have hc1 := H.gw.cell b1 (by simp; exact hkm)
          exact wpOp_val rfl rfl (v := .agg #[.int .u8 m.ty, .string m.o]) (w' := w') (by go_simp) ⟨_, _, _, _, _, _, _, _, _, _, _, _, _, _, _, _, _, _, _, _, _, _, _, _, _, _, _, _, _, rfl, rfl, { H with f5 := fun _ => rfl }⟩
        · exact wpOp_val rfl rfl (v := .pointer (some ⟨kb, 2, none⟩)) (w' := w') (by go_simp) ⟨_, _, _, _, _, _, _, _, _, _, _, _, _, _, _, _, _, _, _, _, _, _, _, _, _, _, _, _, _, rfl, rfl, { H with f6 := fun _ => rfl }⟩
        · subst hdep
          obtain rfl := H.f6 rfl
          have hc := H.gw.cell b2 (by simp; exact hkm)
          exact wpOp_val rfl rfl (v := .int .u8 m.el) (w' := w') (by go_simp) ⟨_, _, _, _, _, _, _, _, _, _, _, _, _, _, _, _, _, _, _, _, _, _, _, _, _, _, _, _, _, rfl, rfl, { H with f7 := fun _ => rfl }⟩
        · exact wpOp_val rfl rfl (v := .pointer (some ⟨kb, 3, none⟩)) (w' := w') (by go_simp) ⟨_, _, _, _, _, _, _, _, _, _, _, _, _, _, _, _, _, _, _, _, _, _, _, _, _, _, _, _, _, rfl, rfl, { H with f8 := fun _ => rfl }⟩
        · subst hdep
          obtain rfl := H.f8 rfl
          have hc := H.gw.cell b3 (by simp; exact hkm)
          exact wpOp_val rfl rfl (v := .int .i64 m.ref) (w' := w') (by go_simp) ⟨_, _, _, _, _, _, _, _, _, _, _, _, _, _, _, _, _, _, _, _, _, _, _, _, _, _, _, _, _, rfl, rfl, { H with f9 := fun _ => rfl }⟩
        · exact wpOp_val rfl rfl (v := .pointer (some ⟨kb, 4, none⟩)) (w' := w') (by go_simp) ⟨_, _, _, _, _, _, _, _, _, _, _, _, _, _, _, _, _, _, _, _, _, _, _, _, _, _, _, _, _, rfl, rfl, { H with f10 := fun _ => rfl }⟩
        · subst hdep
          obtain rfl := H.f10 rfl
          have hc := H.gw.cell b4 (by simp; exact hkm)
          exact wpOp_val rfl rfl (v := .int .i64 m.tot) (w' := w') (by go_simp) ⟨_, _, _, _, _, _, _, _, _, _, _, _, _, _, _, _, _, _, _, _, _, _, _, _, _, _, _, _, _, rfl, rfl, { H with f11 := fun _ => rfl }⟩
        · obtain ⟨rfl, rfl, rfl⟩ := hdep
          obtain rfl := H.f7 rfl
          obtain rfl := H.f9 rfl
          obtain rfl := H.f11 rfl
          exact wpOp_val rfl rfl (v := .agg #[.int .u8 m.el, .int .i64 m.ref, .int .i64 m.tot, .int .i64 0]) (w' := w') (by go_simp) ⟨_, _, _, _, _, _, _, _, _, _, _, _, _, _, _, _, _, _, _, _, _, _, _, _, _, _, _, _, _, rfl, rfl, { H with f12 := fun _ => rfl }⟩
        · obtain ⟨rfl, rfl⟩ := hdep
          obtain rfl := H.f5 rfl
          obtain rfl := H.f12 rfl
          refine wpOp_call rfl rfl (f := 31) (args := #[.agg #[.int .u8 m.ty, .string m.o], .agg #[.int .u8 m.el, .int .i64 m.ref, .int .i64 m.tot, .int .i64 0]]) (w' := w') (by go_simp) ?_
          refine (keyOf31 m 0 w').mono ?_
          rintro e w2 ⟨rfl, hg⟩
          exact ⟨_, rfl, ⟨_, _, _, _, _, _, _, _, _, _, _, _, _, _, _, _, _, _, _, _, _, _, _, _, _, _, _, _, _, rfl, rfl, { H with f13 := fun _ => rfl, gw := gb_trans H.gw (gb_but hg.out _), own := fun h => (H.own h).kept hg.out (by simp), s14 := fun h => (H.s14 h).kept hg.out (by simp) }⟩⟩
        · obtain ⟨rfl, rfl⟩ := hdep
          obtain rfl := H.f3 rfl
          obtain rfl := H.f13 rfl
          obtain ⟨w2, hrun, r1, r2⟩ := (H.own rfl).drop law Try.underlying52 (keyOf_mk m hm) 0
          exact wpOp_val rfl rfl (v := .tuple #[]) (w' := w2) (by simp [execOp, Act.eval, resolve, invoke, builtin, hrun, Result.andThen]) ⟨_, _, _, _, _, _, _, _, _, _, _, _, _, _, _, _, _, _, _, _, _, _, _, _, _, _, _, _, _, rfl, rfl, { H with gw := gb_trans H.gw r2.grown, own := fun h => (by cases h), s14 := fun _ => r1 }⟩
      case fin =>
        rintro L act w' ⟨l0, l1, l2, l3, l4, l5, l6, l7, l8, l9, l10, l11, l12, l13, l14, u17, u18, u19, u20, u21, u22, u23, u24, u25, u26, u27, u28, u29, u30, rfl, rfl, H⟩ hall
        obtain rfl : l14 = true := by simpa using hall 14 (by decide)
        dsimp only
        have HX : Hid (ExR M Hd pb y W1 jb (some mb) L lb ix (t + 1) w') := exR_step (HJ1.out.has mb rfl) HI.out.enum HI.out.hlb hlt HE.out HMP.out.1 HMP.out.2 HGA.out H.gw (by rw [HME.out]; exact H.s14 rfl)
        clear H hall
        go_wp2
        refine ⟨⟨t + 1, by omega, by simp, HX.out⟩, by simp [intOf]; omega⟩
    · obtain rfl : t = L := by omega
      go_wp2
      go_ret
      exact ⟨lb, t, c, ix, rfl, exOut_base HG1.out (exR_end HJ1.out hL HI.out.enum HI.out.hlb HR.out)⟩
end Go.Proofs.Qxb6613072a
