/- buildJoiner: every message held, in the order of the slice. -/
import Derived.Test.Qxb6613072aHold
namespace Go.Proofs.Qxb6613072a
open Go.RowKit Go.Maps

/-- the joiner with k messages held: at block jb, its map at block jb + 1 (none where k = 0) -/
def JS (M : Nat → HM) (w0 : World) (jb k : Nat) (w : World) : Prop :=
  w0.grownBy w none ∧ w0.heap.size ≤ jb ∧ ∃ f, w.rowIs jb 56 5 f ∧ f 1 = .int .u64 (k : Int) ∧
    ((k = 0 ∧ f 0 = .map none ∧ w.heap.size = jb + 1) ∨
     (0 < k ∧ f 0 = .map (some (jb + 1)) ∧ ∃ D pb, w.ownsMap Try.prog 78 RP (jb + 1) k D ∧ MapIs M (· < k) pb D ∧ ∀ i, i < k → jb + 1 < pb i ∧ Held1 w (pb i) i (M i) (M i).sn))

/-- region 6 of buildJoiner -/
structure RF6 (W1 : World) (jb : Nat) (p : Addr) (m : HM) (Pp : World → Prop) (l0 l1 l2 l3 l4 l5 l6 l7 l8 l9 l10 l11 l12 l13 l14 l15 l16 l17 l18 l19 l20 l21 l22 l23 l24 l25 l26 l27 l28 l29 : Bool) (u16 u17 u18 u19 u20 u21 u22 u23 u24 u25 u26 u27 u28 u29 u30 u31 u32 u33 u34 u35 u36 u37 u38 u39 u40 u41 u42 u43 u44 u45 : Value) (w : World) : Prop where
  f0 : l0 = true → u16 = .pointer (some ⟨jb, 0, none⟩)
  f1 : l1 = true → u17 = .pointer (some p)
  f2 : l2 = true → u18 = .pointer (some p)
  f3 : l3 = true → u19 = .pointer (some p)
  f4 : l4 = true → u20 = .string m.o
  f5 : l5 = true → u21 = .pointer (some p)
  f6 : l6 = true → u22 = .pointer (some p)
  f7 : l7 = true → u23 = .pointer (some ⟨p.block, p.off + 1, none⟩)
  f8 : l8 = true → u24 = .int .u8 m.ty
  f9 : l9 = true → u25 = .pointer (some p)
  f10 : l10 = true → u26 = .pointer (some p)
  f11 : l11 = true → u27 = .pointer (some ⟨p.block, p.off + 2, none⟩)
  f12 : l12 = true → u28 = .int .i64 m.ref
  f13 : l13 = true → u29 = .pointer (some p)
  f14 : l14 = true → u30 = .pointer (some p)
  f15 : l15 = true → u31 = .pointer (some ⟨p.block, p.off + 3, none⟩)
  f16 : l16 = true → u32 = .int .i64 m.tot
  f17 : l17 = true → u33 = .pointer (some p)
  f18 : l18 = true → u34 = .pointer (some p)
  f19 : l19 = true → u35 = .pointer (some ⟨p.block, p.off + 4, none⟩)
  f20 : l20 = true → u36 = .int .u8 m.el
  f21 : l21 = true → u37 = .pointer (some p)
  f22 : l22 = true → u38 = .pointer (some p)
  f23 : l23 = true → u39 = .pointer (some ⟨p.block, p.off + 5, none⟩)
  f24 : l24 = true → u40 = .slice m.sa m.sn m.sc
  f25 : l25 = true → u41 = .pointer (some p)
  f26 : l26 = true → u42 = .pointer (some p)
  f27 : l27 = true → u43 = .pointer (some ⟨p.block, p.off + 6, none⟩)
  f28 : l28 = true → u44 = .int .i64 m.lat
  g29 : l29 = true → l4 = true ∧ l8 = true ∧ l12 = true ∧ l16 = true ∧ l20 = true ∧ l24 = true ∧ l28 = true
  gw : l29 = false → w = W1
  s29 : l29 = true → Pp w

def RI6 (t0 t1 t2 t4 t6 t7 t8 t9 t10 t11 t12 t13 t14 t15 t46 t47 : Value) (W1 : World) (jb : Nat) (p : Addr) (m : HM) (Pp : World → Prop) (L : Array Bool) (act : Act) (w : World) : Prop :=
  ∃ (l0 l1 l2 l3 l4 l5 l6 l7 l8 l9 l10 l11 l12 l13 l14 l15 l16 l17 l18 l19 l20 l21 l22 l23 l24 l25 l26 l27 l28 l29 : Bool) (u16 u17 u18 u19 u20 u21 u22 u23 u24 u25 u26 u27 u28 u29 u30 u31 u32 u33 u34 u35 u36 u37 u38 u39 u40 u41 u42 u43 u44 u45 : Value), L = #[l0, l1, l2, l3, l4, l5, l6, l7, l8, l9, l10, l11, l12, l13, l14, l15, l16, l17, l18, l19, l20, l21, l22, l23, l24, l25, l26, l27, l28, l29] ∧ act = { tmps := #[t0, t1, t2, .pointer (some ⟨jb, 0, none⟩), t4, .pointer (some p), t6, t7, t8, t9, t10, t11, t12, t13, t14, t15, u16, u17, u18, u19, u20, u21, u22, u23, u24, u25, u26, u27, u28, u29, u30, u31, u32, u33, u34, u35, u36, u37, u38, u39, u40, u41, u42, u43, u44, u45, t46, t47], defers := [] } ∧ RF6 W1 jb p m Pp l0 l1 l2 l3 l4 l5 l6 l7 l8 l9 l10 l11 l12 l13 l14 l15 l16 l17 l18 l19 l20 l21 l22 l23 l24 l25 l26 l27 l28 l29 u16 u17 u18 u19 u20 u21 u22 u23 u24 u25 u26 u27 u28 u29 u30 u31 u32 u33 u34 u35 u36 u37 u38 u39 u40 u41 u42 u43 u44 u45 w



theorem held1_kept {w w' : World} {B : Nat} {jb mb : Nat} {k : Int} {m : HM} {sn : Nat} (h : Held1 w B k m sn) (g : Kept2 w w' jb mb) (h1 : jb < B) (h2 : mb < B) : Held1 w' B k m sn := by
  have c : ∀ (b o : Nat) (v : Value), B ≤ b → w.cell? ⟨b, o, none⟩ = some v → w'.cell? ⟨b, o, none⟩ = some v := by
    intro b o v hb hc
    rw [← hc]
    simp only [World.cell?, g.block b (block_lt_of_cell hc) (by omega) (by omega)]
  exact ⟨c _ _ _ (Nat.le_refl _) h.c0, c _ _ _ (Nat.le_refl _) h.c4, c _ _ _ (Nat.le_refl _) h.c5, c _ _ _ (Nat.le_refl _) h.c6, c _ _ _ (Nat.le_refl _) h.c7, fun t ht => c _ _ _ (by omega) (h.qs t ht), by obtain ⟨f, hf, hi⟩ := h.rs; exact ⟨f, hf.of_block (g.block _ hf.lt (by omega) (by omega)), hi⟩⟩
theorem kept2_gb {w0 w w' : World} {jb mb : Nat} (h : w0.grownBy w none) (g : Kept2 w w' jb mb) (h1 : w0.heap.size ≤ jb) (h2 : w0.heap.size ≤ mb) : w0.grownBy w' none :=
  ⟨g.os.trans h.os, g.tape.trans h.tape, g.output.trans h.output, Nat.le_trans h.size g.size, fun i hi hn => (g.block i (Nat.lt_of_lt_of_le hi h.size) (by omega) (by omega)).trans (h.block i hi hn)⟩

/-- every message of its kind, short, its key no other's -/
structure MsOK (n : Nat) (M : Nat → HM) : Prop where
  wf : ∀ i, i < n → (M i).Wf
  sn : ∀ i, i < n → (M i).sn ≤ 254
  ne : ∀ i k, i < k → k < n → klit (M i) ≠ klit (M k)

theorem wf_i64 {x : Int} (h : (Lit.int .i64 x).wf = true) : -9223372036854775808 ≤ x ∧ x ≤ 9223372036854775807 := by
  simp [Lit.wf, IntKind.min, IntKind.max, IntKind.signed, IntKind.bits] at h
  omega

theorem js_drew {M : Nat → HM} {w0 w : World} {jb k : Nat} (h : JS M w0 jb k w) : JS M w0 jb k w.drew := by
  obtain ⟨hg, hjb, f, hf, f1, hcase⟩ := h
  refine ⟨gb_drew hg, hjb, f, hf, f1, ?_⟩
  rcases hcase with h | ⟨h1, h2, D, pb, ho, hm, hh⟩
  · exact .inl h
  · exact .inr ⟨h1, h2, D, pb, ho, hm, fun i hi => ⟨(hh i hi).1, ⟨(hh i hi).2.c0, (hh i hi).2.c4, (hh i hi).2.c5, (hh i hi).2.c6, (hh i hi).2.c7, (hh i hi).2.qs, (hh i hi).2.rs⟩⟩⟩

theorem hold_step {n k jb : Nat} {M : Nat → HM} {w0 w : World} {a : Option Addr} (hn : n ≤ 4096) (hk : k < n) (hM : MsOK n M) (hS : MsgO w0 a n M) (hJ : JS M w0 jb k w) :
    Calls Try.prog 25 #[.pointer (some ⟨jb, 0, none⟩), .string (M k).o, .int .u8 (M k).ty, .int .i64 (M k).ref, .int .i64 (M k).tot, .int .u8 (M k).el, .slice (M k).sa (M k).sn (M k).sc, .int .i64 (M k).lat] w fun e w' => e = .returned (.tuple #[]) ∧ JS M w0 jb (k + 1) w' := by
  obtain ⟨hg, hjb, f, hf, f1, hcase⟩ := hJ
  obtain ⟨l0, l1⟩ := wf_i64 (hM.wf k hk).lat
  obtain ⟨ad, _, _, _, _, _, _, _, _, hq⟩ := hS k hk
  rcases hcase with ⟨rfl, f0, hsz⟩ | ⟨hpos, f0, D, pb, hown, hmap, hheld⟩
  · refine (hold_none jb (M 0).sn (M 0).sc (M 0).sa 0 (M 0) w (hM.wf 0 hk) (hM.sn 0 hk) (by omega) l0 l1 f hf f0 f1 (fun t ht => ?_)).mono ?_
    · obtain ⟨sad, e, hc⟩ := hq t ht
      refine ⟨sad, e, ?_, hg.cell hc (by simp)⟩
      have := block_lt_of_cell hc
      have e2 : (sad.add t).block = sad.block := by unfold Addr.add; split <;> rfl
      omega
    · rintro e w' ⟨rfl, hH⟩
      obtain ⟨v, hv1, hv2, B, hB, h1, h2, ⟨f', r1, r2, r3⟩, hK⟩ := hH.out
      rw [hsz] at hv1 hK h2 r2
      have gv : w0.grownBy v none := ⟨hv2.os.trans hg.os, hv2.tape.trans hg.tape, hv2.output.trans hg.output, Nat.le_trans hg.size hv2.size, fun i hi hn => (hv2.block i (Nat.lt_of_lt_of_le hi hg.size) (by simp; omega)).trans (hg.block i hi hn)⟩
      refine ⟨rfl, kept2_gb gv hK hjb (by omega), hjb, f', r1, by simpa using r3, .inr ⟨by omega, r2, _, fun i => if i = 0 then B else 0, h2, ?_, fun i hi => ?_⟩⟩
      · have := (MapIs.empty M (fun _ => 0)).put 0 B (fun i h => h.elim)
        exact ⟨this.isMap, fun kl hk => by obtain ⟨i, hi, e⟩ := this.only kl hk; exact ⟨i, by rcases hi with h | h; exact h.elim; omega, e⟩, fun i hi => this.all i (.inr (by omega))⟩
      · obtain rfl : i = 0 := by omega
        dsimp only
        rw [if_pos rfl]
        exact ⟨by omega, h1⟩
  · refine (hold_some jb (jb + 1) (M k).sn (M k).sc (M k).sa k (M k) D k w (hM.wf k hk) (hM.sn k hk) (by omega) l0 l1 f hf f0 f1 (by omega) hown (by unfold maxLen; omega) (fun t ht => ?_)).mono ?_
    · obtain ⟨sad, e, hc⟩ := hq t ht
      exact ⟨sad, e, hg.cell hc (by simp)⟩
    · rintro e w' ⟨rfl, hH⟩
      obtain ⟨B, hB, h1, h2, ⟨f', r1, r2, r3⟩, hK⟩ := hH.out
      have hlt := hown.lt
      refine ⟨rfl, kept2_gb hg hK hjb (by omega), hjb, f', r1, by simpa using r3, .inr ⟨by omega, r2, _, fun i => if i = k then B else pb i, h2, ?_, fun i hi => ?_⟩⟩
      · have := hmap.put k B (fun i hi => hM.ne i k hi hk)
        exact ⟨this.isMap, fun kl hk => by obtain ⟨i, hi, e⟩ := this.only kl hk; exact ⟨i, by rcases hi with h | h <;> omega, e⟩, fun i hi => this.all i (by omega)⟩
      · by_cases e : i = k
        · subst e
          dsimp only
          rw [if_pos rfl]
          exact ⟨by omega, h1⟩
        · dsimp only
          rw [if_neg e]
          obtain ⟨b1, b2⟩ := hheld i (by omega)
          exact ⟨b1, held1_kept b2 hK (by omega) b1⟩

set_option maxRecDepth 100000 in
set_option maxHeartbeats 4000000 in
theorem build15 (a : Option Addr) (n cap : Nat) (M : Nat → HM) (hn : n ≤ 4096) (hM : MsOK n M) (w0 : World) (hS : MsgO w0 a n M) :
    Calls Try.prog 15 #[.slice a n cap] w0 fun e w' => e = .returned (.pointer (some ⟨w0.heap.size, 0, none⟩)) ∧ Hid (JS M w0 w0.heap.size n w') := by
  have HS : Hid (MsgO w0 a n M) := hS
  have HM : Hid (MsOK n M) := hM
  clear hS hM
  have HJ0 : Hid (JS M w0 w0.heap.size 0 (w0.alloc (.cells #[.map none, .int .u64 0, .slice none 0 0, .slice none 0 0, .slice none 0 0] 56))) := by
    refine ⟨gb_alloc (gb_refl _ _) _, Nat.le_refl _, _, World.rowIs_alloc w0 #[.map none, .int .u64 0, .slice none 0 0, .slice none 0 0, .slice none 0 0] 56 (fun i => #[Value.map none, .int .u64 0, .slice none 0 0, .slice none 0 0, .slice none 0 0].getD i undef) (fun i hi => by simp at hi; rcases i with _ | _ | _ | _ | _ | i; all_goals first | rfl | omega), rfl, .inl ⟨rfl, rfl, by simp⟩⟩
  go_enter Try.func15, Try.ntmps15
  go_wp2
  obtain ⟨jb, hjb⟩ : ∃ jb, w0.heap.size = jb := ⟨_, rfl⟩
  rw [hjb] at HJ0 ⊢
  have HJB : Hid (w0.heap.size = jb) := hjb
  clear hjb
  generalize (w0.alloc (.cells #[.map none, .int .u64 0, .slice none 0 0, .slice none 0 0, .slice none 0 0] 56)) = w1 at *
  go_loopw [10] (fun i wr => ∃ k : Nat, k ≤ n ∧ i = .int .i64 k ∧ Hid (JS M w0 jb k wr)) (fun i _ => n - (intOf i).toNat)
  case atStart => exact ⟨0, Nat.zero_le _, rfl, HJ0.out⟩
  case round =>
    obtain ⟨k, hk, rfl, H⟩ := hrel
    by_cases hlt : k < n
    · obtain ⟨ad, rfl, _⟩ := HS.out k hlt
      obtain ⟨ad', e', c0, c1, c2, c3, c4, c5, c6, _⟩ := (HS.out.grown (gb_drew H.out.1)) k hlt
      obtain rfl := Option.some.inj e'
      clear e'
      have hJd : JS M w0 jb k wr.drew := js_drew H.out
      have hcall := hold_step hn hlt HM.out HS.out hJd
      have HJ' : Hid (JS M w0 jb k wr) := H.out
      clear hJd H
      obtain ⟨m, hm⟩ : ∃ m, M k = m := ⟨_, rfl⟩
      rw [hm] at c0 c1 c2 c3 c4 c5 c6 hcall
      clear hm
      have HC : Hid (Calls Try.prog 25 #[.pointer (some ⟨jb, 0, none⟩), .string m.o, .int .u8 m.ty, .int .i64 m.ref, .int .i64 m.tot, .int .u8 m.el, .slice m.sa m.sn m.sc, .int .i64 m.lat] wr.drew fun e w' => e = .returned (.tuple #[]) ∧ JS M w0 jb (k + 1) w') := hcall
      clear hcall
      go_wp2_with fail
      obtain ⟨p, hp⟩ : ∃ p, ad.add (k * 7) = p := ⟨_, rfl⟩
      rw [hp] at c0 c1 c2 c3 c4 c5 c6 ⊢
      clear hp
      have hcall := HC.out
      refine wp_region_any (by kernel_rfl) ?_
      change wpAny _ _ _ _ _ _ _ (World.drew _)
      refine wpAny_inv (RI6 _ _ _ _ _ _ _ _ _ _ _ _ _ _ _ _ (wr.drew) jb p m (fun w2 => JS M w0 jb (k + 1) w2)) ?size ?ord ?step ?fin _ _ _ _ ⟨false, false, false, false, false, false, false, false, false, false, false, false, false, false, false, false, false, false, false, false, false, false, false, false, false, false, false, false, false, false, _, _, _, _, _, _, _, _, _, _, _, _, _, _, _, _, _, _, _, _, _, _, _, _, _, _, _, _, _, _, rfl, rfl, by constructor <;> first | (intro h; cases h; done) | exact fun _ => rfl⟩ (by decide)
      case size =>
        rintro L act w' ⟨l0, l1, l2, l3, l4, l5, l6, l7, l8, l9, l10, l11, l12, l13, l14, l15, l16, l17, l18, l19, l20, l21, l22, l23, l24, l25, l26, l27, l28, l29, u16, u17, u18, u19, u20, u21, u22, u23, u24, u25, u26, u27, u28, u29, u30, u31, u32, u33, u34, u35, u36, u37, u38, u39, u40, u41, u42, u43, u44, u45, rfl, rfl, _⟩
        rfl
      case ord => exact ordered (by kernel_rfl)
      case step =>
        rintro L act w' ⟨l0, l1, l2, l3, l4, l5, l6, l7, l8, l9, l10, l11, l12, l13, l14, l15, l16, l17, l18, l19, l20, l21, l22, l23, l24, l25, l26, l27, l28, l29, u16, u17, u18, u19, u20, u21, u22, u23, u24, u25, u26, u27, u28, u29, u30, u31, u32, u33, u34, u35, u36, u37, u38, u39, u40, u41, u42, u43, u44, u45, rfl, rfl, H⟩ i hi
        obtain ⟨hun, o, ho, hdep⟩ := mem_ready.1 hi
        have hi30 : i < 30 := (Array.getElem?_eq_some_iff.1 ho).1
        obtain rfl | rfl | rfl | rfl | rfl | rfl | rfl | rfl | rfl | rfl | rfl | rfl | rfl | rfl | rfl | rfl | rfl | rfl | rfl | rfl | rfl | rfl | rfl | rfl | rfl | rfl | rfl | rfl | rfl | rfl : i = 0 ∨ i = 1 ∨ i = 2 ∨ i = 3 ∨ i = 4 ∨ i = 5 ∨ i = 6 ∨ i = 7 ∨ i = 8 ∨ i = 9 ∨ i = 10 ∨ i = 11 ∨ i = 12 ∨ i = 13 ∨ i = 14 ∨ i = 15 ∨ i = 16 ∨ i = 17 ∨ i = 18 ∨ i = 19 ∨ i = 20 ∨ i = 21 ∨ i = 22 ∨ i = 23 ∨ i = 24 ∨ i = 25 ∨ i = 26 ∨ i = 27 ∨ i = 28 ∨ i = 29 := by omega
        all_goals (simp at ho; subst ho; simp [Region.binds] at hun hdep; subst hun)
        · exact wpOp_val rfl rfl (v := .pointer (some ⟨jb, 0, none⟩)) (w' := w') (by go_simp) ⟨_, _, _, _, _, _, _, _, _, _, _, _, _, _, _, _, _, _, _, _, _, _, _, _, _, _, _, _, _, _, _, _, _, _, _, _, _, _, _, _, _, _, _, _, _, _, _, _, _, _, _, _, _, _, _, _, _, _, _, _, rfl, rfl, { H with f0 := fun _ => rfl }⟩
        · exact wpOp_val rfl rfl (v := .pointer (some p)) (w' := w') (by go_simp) ⟨_, _, _, _, _, _, _, _, _, _, _, _, _, _, _, _, _, _, _, _, _, _, _, _, _, _, _, _, _, _, _, _, _, _, _, _, _, _, _, _, _, _, _, _, _, _, _, _, _, _, _, _, _, _, _, _, _, _, _, _, rfl, rfl, { H with f1 := fun _ => rfl }⟩
        · subst hdep
          obtain rfl := H.f1 rfl
          exact wpOp_val rfl rfl (v := .pointer (some p)) (w' := w') (by go_simp) ⟨_, _, _, _, _, _, _, _, _, _, _, _, _, _, _, _, _, _, _, _, _, _, _, _, _, _, _, _, _, _, _, _, _, _, _, _, _, _, _, _, _, _, _, _, _, _, _, _, _, _, _, _, _, _, _, _, _, _, _, _, rfl, rfl, { H with f2 := fun _ => rfl }⟩
        · subst hdep
          obtain rfl := H.f2 rfl
          exact wpOp_val rfl rfl (v := .pointer (some p)) (w' := w') (by go_simp) ⟨_, _, _, _, _, _, _, _, _, _, _, _, _, _, _, _, _, _, _, _, _, _, _, _, _, _, _, _, _, _, _, _, _, _, _, _, _, _, _, _, _, _, _, _, _, _, _, _, _, _, _, _, _, _, _, _, _, _, _, _, rfl, rfl, { H with f3 := fun _ => rfl }⟩
        · subst hdep
          obtain rfl := H.f3 rfl
          obtain rfl : l29 = false := by cases l29 with | false => rfl | true => cases (H.g29 rfl).1
          obtain rfl := H.gw rfl
          exact wpOp_val rfl rfl (v := .string m.o) (w' := wr.drew) (by go_simp) ⟨_, _, _, _, _, _, _, _, _, _, _, _, _, _, _, _, _, _, _, _, _, _, _, _, _, _, _, _, _, _, _, _, _, _, _, _, _, _, _, _, _, _, _, _, _, _, _, _, _, _, _, _, _, _, _, _, _, _, _, _, rfl, rfl, { H with f4 := fun _ => rfl, g29 := fun h => (by cases h) }⟩
        · exact wpOp_val rfl rfl (v := .pointer (some p)) (w' := w') (by go_simp) ⟨_, _, _, _, _, _, _, _, _, _, _, _, _, _, _, _, _, _, _, _, _, _, _, _, _, _, _, _, _, _, _, _, _, _, _, _, _, _, _, _, _, _, _, _, _, _, _, _, _, _, _, _, _, _, _, _, _, _, _, _, rfl, rfl, { H with f5 := fun _ => rfl }⟩
        · subst hdep
          obtain rfl := H.f5 rfl
          exact wpOp_val rfl rfl (v := .pointer (some p)) (w' := w') (by go_simp) ⟨_, _, _, _, _, _, _, _, _, _, _, _, _, _, _, _, _, _, _, _, _, _, _, _, _, _, _, _, _, _, _, _, _, _, _, _, _, _, _, _, _, _, _, _, _, _, _, _, _, _, _, _, _, _, _, _, _, _, _, _, rfl, rfl, { H with f6 := fun _ => rfl }⟩
        · subst hdep
          obtain rfl := H.f6 rfl
          exact wpOp_val rfl rfl (v := .pointer (some ⟨p.block, p.off + 1, none⟩)) (w' := w') (by go_simp) ⟨_, _, _, _, _, _, _, _, _, _, _, _, _, _, _, _, _, _, _, _, _, _, _, _, _, _, _, _, _, _, _, _, _, _, _, _, _, _, _, _, _, _, _, _, _, _, _, _, _, _, _, _, _, _, _, _, _, _, _, _, rfl, rfl, { H with f7 := fun _ => rfl }⟩
        · subst hdep
          obtain rfl := H.f7 rfl
          obtain rfl : l29 = false := by cases l29 with | false => rfl | true => cases (H.g29 rfl).2.1
          obtain rfl := H.gw rfl
          exact wpOp_val rfl rfl (v := .int .u8 m.ty) (w' := wr.drew) (by go_simp) ⟨_, _, _, _, _, _, _, _, _, _, _, _, _, _, _, _, _, _, _, _, _, _, _, _, _, _, _, _, _, _, _, _, _, _, _, _, _, _, _, _, _, _, _, _, _, _, _, _, _, _, _, _, _, _, _, _, _, _, _, _, rfl, rfl, { H with f8 := fun _ => rfl, g29 := fun h => (by cases h) }⟩
        · exact wpOp_val rfl rfl (v := .pointer (some p)) (w' := w') (by go_simp) ⟨_, _, _, _, _, _, _, _, _, _, _, _, _, _, _, _, _, _, _, _, _, _, _, _, _, _, _, _, _, _, _, _, _, _, _, _, _, _, _, _, _, _, _, _, _, _, _, _, _, _, _, _, _, _, _, _, _, _, _, _, rfl, rfl, { H with f9 := fun _ => rfl }⟩
        · subst hdep
          obtain rfl := H.f9 rfl
          exact wpOp_val rfl rfl (v := .pointer (some p)) (w' := w') (by go_simp) ⟨_, _, _, _, _, _, _, _, _, _, _, _, _, _, _, _, _, _, _, _, _, _, _, _, _, _, _, _, _, _, _, _, _, _, _, _, _, _, _, _, _, _, _, _, _, _, _, _, _, _, _, _, _, _, _, _, _, _, _, _, rfl, rfl, { H with f10 := fun _ => rfl }⟩
        · subst hdep
          obtain rfl := H.f10 rfl
          exact wpOp_val rfl rfl (v := .pointer (some ⟨p.block, p.off + 2, none⟩)) (w' := w') (by go_simp) ⟨_, _, _, _, _, _, _, _, _, _, _, _, _, _, _, _, _, _, _, _, _, _, _, _, _, _, _, _, _, _, _, _, _, _, _, _, _, _, _, _, _, _, _, _, _, _, _, _, _, _, _, _, _, _, _, _, _, _, _, _, rfl, rfl, { H with f11 := fun _ => rfl }⟩
        · subst hdep
          obtain rfl := H.f11 rfl
          obtain rfl : l29 = false := by cases l29 with | false => rfl | true => cases (H.g29 rfl).2.2.1
          obtain rfl := H.gw rfl
          exact wpOp_val rfl rfl (v := .int .i64 m.ref) (w' := wr.drew) (by go_simp) ⟨_, _, _, _, _, _, _, _, _, _, _, _, _, _, _, _, _, _, _, _, _, _, _, _, _, _, _, _, _, _, _, _, _, _, _, _, _, _, _, _, _, _, _, _, _, _, _, _, _, _, _, _, _, _, _, _, _, _, _, _, rfl, rfl, { H with f12 := fun _ => rfl, g29 := fun h => (by cases h) }⟩
        · exact wpOp_val rfl rfl (v := .pointer (some p)) (w' := w') (by go_simp) ⟨_, _, _, _, _, _, _, _, _, _, _, _, _, _, _, _, _, _, _, _, _, _, _, _, _, _, _, _, _, _, _, _, _, _, _, _, _, _, _, _, _, _, _, _, _, _, _, _, _, _, _, _, _, _, _, _, _, _, _, _, rfl, rfl, { H with f13 := fun _ => rfl }⟩
        · subst hdep
          obtain rfl := H.f13 rfl
          exact wpOp_val rfl rfl (v := .pointer (some p)) (w' := w') (by go_simp) ⟨_, _, _, _, _, _, _, _, _, _, _, _, _, _, _, _, _, _, _, _, _, _, _, _, _, _, _, _, _, _, _, _, _, _, _, _, _, _, _, _, _, _, _, _, _, _, _, _, _, _, _, _, _, _, _, _, _, _, _, _, rfl, rfl, { H with f14 := fun _ => rfl }⟩
        · subst hdep
          obtain rfl := H.f14 rfl
          exact wpOp_val rfl rfl (v := .pointer (some ⟨p.block, p.off + 3, none⟩)) (w' := w') (by go_simp) ⟨_, _, _, _, _, _, _, _, _, _, _, _, _, _, _, _, _, _, _, _, _, _, _, _, _, _, _, _, _, _, _, _, _, _, _, _, _, _, _, _, _, _, _, _, _, _, _, _, _, _, _, _, _, _, _, _, _, _, _, _, rfl, rfl, { H with f15 := fun _ => rfl }⟩
        · subst hdep
          obtain rfl := H.f15 rfl
          obtain rfl : l29 = false := by cases l29 with | false => rfl | true => cases (H.g29 rfl).2.2.2.1
          obtain rfl := H.gw rfl
          exact wpOp_val rfl rfl (v := .int .i64 m.tot) (w' := wr.drew) (by go_simp) ⟨_, _, _, _, _, _, _, _, _, _, _, _, _, _, _, _, _, _, _, _, _, _, _, _, _, _, _, _, _, _, _, _, _, _, _, _, _, _, _, _, _, _, _, _, _, _, _, _, _, _, _, _, _, _, _, _, _, _, _, _, rfl, rfl, { H with f16 := fun _ => rfl, g29 := fun h => (by cases h) }⟩
        · exact wpOp_val rfl rfl (v := .pointer (some p)) (w' := w') (by go_simp) ⟨_, _, _, _, _, _, _, _, _, _, _, _, _, _, _, _, _, _, _, _, _, _, _, _, _, _, _, _, _, _, _, _, _, _, _, _, _, _, _, _, _, _, _, _, _, _, _, _, _, _, _, _, _, _, _, _, _, _, _, _, rfl, rfl, { H with f17 := fun _ => rfl }⟩
        · subst hdep
          obtain rfl := H.f17 rfl
          exact wpOp_val rfl rfl (v := .pointer (some p)) (w' := w') (by go_simp) ⟨_, _, _, _, _, _, _, _, _, _, _, _, _, _, _, _, _, _, _, _, _, _, _, _, _, _, _, _, _, _, _, _, _, _, _, _, _, _, _, _, _, _, _, _, _, _, _, _, _, _, _, _, _, _, _, _, _, _, _, _, rfl, rfl, { H with f18 := fun _ => rfl }⟩
        · subst hdep
          obtain rfl := H.f18 rfl
          exact wpOp_val rfl rfl (v := .pointer (some ⟨p.block, p.off + 4, none⟩)) (w' := w') (by go_simp) ⟨_, _, _, _, _, _, _, _, _, _, _, _, _, _, _, _, _, _, _, _, _, _, _, _, _, _, _, _, _, _, _, _, _, _, _, _, _, _, _, _, _, _, _, _, _, _, _, _, _, _, _, _, _, _, _, _, _, _, _, _, rfl, rfl, { H with f19 := fun _ => rfl }⟩
        · subst hdep
          obtain rfl := H.f19 rfl
          obtain rfl : l29 = false := by cases l29 with | false => rfl | true => cases (H.g29 rfl).2.2.2.2.1
          obtain rfl := H.gw rfl
          exact wpOp_val rfl rfl (v := .int .u8 m.el) (w' := wr.drew) (by go_simp) ⟨_, _, _, _, _, _, _, _, _, _, _, _, _, _, _, _, _, _, _, _, _, _, _, _, _, _, _, _, _, _, _, _, _, _, _, _, _, _, _, _, _, _, _, _, _, _, _, _, _, _, _, _, _, _, _, _, _, _, _, _, rfl, rfl, { H with f20 := fun _ => rfl, g29 := fun h => (by cases h) }⟩
        · exact wpOp_val rfl rfl (v := .pointer (some p)) (w' := w') (by go_simp) ⟨_, _, _, _, _, _, _, _, _, _, _, _, _, _, _, _, _, _, _, _, _, _, _, _, _, _, _, _, _, _, _, _, _, _, _, _, _, _, _, _, _, _, _, _, _, _, _, _, _, _, _, _, _, _, _, _, _, _, _, _, rfl, rfl, { H with f21 := fun _ => rfl }⟩
        · subst hdep
          obtain rfl := H.f21 rfl
          exact wpOp_val rfl rfl (v := .pointer (some p)) (w' := w') (by go_simp) ⟨_, _, _, _, _, _, _, _, _, _, _, _, _, _, _, _, _, _, _, _, _, _, _, _, _, _, _, _, _, _, _, _, _, _, _, _, _, _, _, _, _, _, _, _, _, _, _, _, _, _, _, _, _, _, _, _, _, _, _, _, rfl, rfl, { H with f22 := fun _ => rfl }⟩
        · subst hdep
          obtain rfl := H.f22 rfl
          exact wpOp_val rfl rfl (v := .pointer (some ⟨p.block, p.off + 5, none⟩)) (w' := w') (by go_simp) ⟨_, _, _, _, _, _, _, _, _, _, _, _, _, _, _, _, _, _, _, _, _, _, _, _, _, _, _, _, _, _, _, _, _, _, _, _, _, _, _, _, _, _, _, _, _, _, _, _, _, _, _, _, _, _, _, _, _, _, _, _, rfl, rfl, { H with f23 := fun _ => rfl }⟩
        · subst hdep
          obtain rfl := H.f23 rfl
          obtain rfl : l29 = false := by cases l29 with | false => rfl | true => cases (H.g29 rfl).2.2.2.2.2.1
          obtain rfl := H.gw rfl
          exact wpOp_val rfl rfl (v := .slice m.sa m.sn m.sc) (w' := wr.drew) (by go_simp) ⟨_, _, _, _, _, _, _, _, _, _, _, _, _, _, _, _, _, _, _, _, _, _, _, _, _, _, _, _, _, _, _, _, _, _, _, _, _, _, _, _, _, _, _, _, _, _, _, _, _, _, _, _, _, _, _, _, _, _, _, _, rfl, rfl, { H with f24 := fun _ => rfl, g29 := fun h => (by cases h) }⟩
        · exact wpOp_val rfl rfl (v := .pointer (some p)) (w' := w') (by go_simp) ⟨_, _, _, _, _, _, _, _, _, _, _, _, _, _, _, _, _, _, _, _, _, _, _, _, _, _, _, _, _, _, _, _, _, _, _, _, _, _, _, _, _, _, _, _, _, _, _, _, _, _, _, _, _, _, _, _, _, _, _, _, rfl, rfl, { H with f25 := fun _ => rfl }⟩
        · subst hdep
          obtain rfl := H.f25 rfl
          exact wpOp_val rfl rfl (v := .pointer (some p)) (w' := w') (by go_simp) ⟨_, _, _, _, _, _, _, _, _, _, _, _, _, _, _, _, _, _, _, _, _, _, _, _, _, _, _, _, _, _, _, _, _, _, _, _, _, _, _, _, _, _, _, _, _, _, _, _, _, _, _, _, _, _, _, _, _, _, _, _, rfl, rfl, { H with f26 := fun _ => rfl }⟩
        · subst hdep
          obtain rfl := H.f26 rfl
          exact wpOp_val rfl rfl (v := .pointer (some ⟨p.block, p.off + 6, none⟩)) (w' := w') (by go_simp) ⟨_, _, _, _, _, _, _, _, _, _, _, _, _, _, _, _, _, _, _, _, _, _, _, _, _, _, _, _, _, _, _, _, _, _, _, _, _, _, _, _, _, _, _, _, _, _, _, _, _, _, _, _, _, _, _, _, _, _, _, _, rfl, rfl, { H with f27 := fun _ => rfl }⟩
        · subst hdep
          obtain rfl := H.f27 rfl
          obtain rfl : l29 = false := by cases l29 with | false => rfl | true => cases (H.g29 rfl).2.2.2.2.2.2
          obtain rfl := H.gw rfl
          exact wpOp_val rfl rfl (v := .int .i64 m.lat) (w' := wr.drew) (by go_simp) ⟨_, _, _, _, _, _, _, _, _, _, _, _, _, _, _, _, _, _, _, _, _, _, _, _, _, _, _, _, _, _, _, _, _, _, _, _, _, _, _, _, _, _, _, _, _, _, _, _, _, _, _, _, _, _, _, _, _, _, _, _, rfl, rfl, { H with f28 := fun _ => rfl, g29 := fun h => (by cases h) }⟩
        · obtain rfl : l0 = true := by simpa using hdep.1
          obtain rfl : l4 = true := by simpa using hdep.2.1
          obtain rfl : l8 = true := by simpa using hdep.2.2.1
          obtain rfl : l12 = true := by simpa using hdep.2.2.2.1
          obtain rfl : l16 = true := by simpa using hdep.2.2.2.2.1
          obtain rfl : l20 = true := by simpa using hdep.2.2.2.2.2.1
          obtain rfl : l24 = true := by simpa using hdep.2.2.2.2.2.2.1
          obtain rfl : l28 = true := by simpa using hdep.2.2.2.2.2.2.2
          obtain rfl := H.f0 rfl
          obtain rfl := H.f4 rfl
          obtain rfl := H.f8 rfl
          obtain rfl := H.f12 rfl
          obtain rfl := H.f16 rfl
          obtain rfl := H.f20 rfl
          obtain rfl := H.f24 rfl
          obtain rfl := H.f28 rfl
          obtain rfl := H.gw rfl
          refine wpOp_call rfl rfl (f := 25) (args := #[.pointer (some ⟨jb, 0, none⟩), .string m.o, .int .u8 m.ty, .int .i64 m.ref, .int .i64 m.tot, .int .u8 m.el, .slice m.sa m.sn m.sc, .int .i64 m.lat]) (w' := wr.drew) (by go_simp) ?_
          refine hcall.mono ?_
          rintro e w2 ⟨rfl, hP⟩
          exact ⟨_, rfl, ⟨_, _, _, _, _, _, _, _, _, _, _, _, _, _, _, _, _, _, _, _, _, _, _, _, _, _, _, _, _, _, _, _, _, _, _, _, _, _, _, _, _, _, _, _, _, _, _, _, _, _, _, _, _, _, _, _, _, _, _, _, rfl, rfl, { H with g29 := fun _ => ⟨rfl, rfl, rfl, rfl, rfl, rfl, rfl⟩, gw := fun h => (by cases h), s29 := fun _ => hP }⟩⟩
      case fin =>
        rintro L act w' ⟨l0, l1, l2, l3, l4, l5, l6, l7, l8, l9, l10, l11, l12, l13, l14, l15, l16, l17, l18, l19, l20, l21, l22, l23, l24, l25, l26, l27, l28, l29, u16, u17, u18, u19, u20, u21, u22, u23, u24, u25, u26, u27, u28, u29, u30, u31, u32, u33, u34, u35, u36, u37, u38, u39, u40, u41, u42, u43, u44, u45, rfl, rfl, H⟩ hall
        obtain rfl : l29 = true := by simpa using hall 29 (by decide)
        have HP : Hid (JS M w0 jb (k + 1) w') := H.s29 rfl
        clear H hall
        dsimp only
        go_wp2
        go_roundw
        case rel => exact ⟨k + 1, by omega, by go_num, HP.out⟩
        case measure => simp [intOf]; omega
    · obtain rfl : k = n := by omega
      go_wp2
      go_ret
      rw [HJB.out]
      exact ⟨rfl, H.out⟩
end Go.Proofs.Qxb6613072a
