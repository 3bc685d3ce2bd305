/- The map of held messages: keyed by a struct of five cells, its elements pointers to blocks. -/
import Derived.Test.Qxb6613072aReach
import Derived.Test.Qxb6613072aInv
import Derived.DeepKeys4
import Derived.Maps.OwnSet
import Derived.Maps.RangeWalk
namespace Go.Proofs.Qxb6613072a
open Go.RowKit Go.Maps

/-- a message's key -/
def keyV (m : HM) : Value := .agg #[.string m.o, .int .i64 m.ref, .int .i64 m.tot, .int .u8 m.el, .int .u8 m.ty]
/-- what a key reads as -/
def klit (m : HM) : Lit := .string (keyBytes [.string m.o.data.toList, .int .i64 m.ref, .int .i64 m.tot, .int .u8 m.el, .int .u8 m.ty])
/-- each number is of its kind -/
structure HM.Wf (m : HM) : Prop where
  o : m.o.size ≤ maxLen
  ty : (Lit.int .u8 m.ty).wf = true
  ref : (Lit.int .i64 m.ref).wf = true
  tot : (Lit.int .i64 m.tot).wf = true
  el : (Lit.int .u8 m.el).wf = true
  lat : (Lit.int .i64 m.lat).wf = true

theorem laidOut : laidOutB Try.prog = true := by kernel_rfl
theorem row78 : 78 < Try.prog.types.size := of_decide_eq_true (by kernel_rfl)
theorem law : Keyed Try.prog 78 := Keyed.of_law (deep_law_laid laidOut (m := 3) (by omega) row78 (by kernel_rfl) (by kernel_rfl))

theorem key78 : Try.prog.keyType 78 = true := by kernel_rfl
theorem cells78 : Try.prog.cellsOf 78 = 5 := by kernel_rfl
theorem cells9 : Try.prog.cellsOf 9 = 1 := by kernel_rfl
theorem cells3 : Try.prog.cellsOf 3 = 1 := by kernel_rfl
theorem cells39 : Try.prog.cellsOf 39 = 1 := by kernel_rfl
theorem cells5 : Try.prog.cellsOf 5 = 1 := by kernel_rfl
theorem tsize : ∃ n, Try.prog.types.size = n + 1 := ⟨_, rfl⟩

theorem keyOf_mk (m : HM) (h : m.Wf) : keyOf Try.prog 78 (keyV m) = some (klit m) := by
  have hf : (keyV m).formed Try.prog 78 = true := by kernel_rfl
  obtain ⟨n, hn⟩ := tsize
  have h3 := h.ref
  have h4 := h.tot
  have h5 := h.el
  have h6 := h.ty
  have h7 := h.o
  simp only [keyOf, Try.underlying78, key78, hf, Bool.and_true, if_true, hn]
  simp [Program.keyLits, Try.underlying78, Try.underlying9, Try.underlying3, Try.underlying39, Try.underlying5, cells78, cells9, cells3, cells39, cells5, keyV, Value.cells, h3, h4, h5, h6, h7, klit]

theorem klit_ne {m m' : HM} (h : m.Wf) (h' : m'.Wf) (e : keyEq m m' = false) : klit m ≠ klit m' := by
  intro hk
  have h1 := keyOf_mk m h
  have h2 := keyOf_mk m' h'
  rw [← hk] at h2
  have := law.inj h1 h2
  simp only [keyV, Value.agg.injEq, Array.mk.injEq, List.cons.injEq, Value.string.injEq, Value.int.injEq, true_and, and_true] at this
  obtain ⟨e1, e2, e3, e4, e5⟩ := this
  simp [keyEq, e1, e2, e3, e4, e5] at e
theorem klit_key (m : HM) : WideAt.IsKeyLit (klit m) := True.intro

/-- how an element reads: a pointer as its block -/
def RP (v : Value) : Option (DataW Unit × List MemPlace) :=
  match v with
  | .pointer none => some (.nil, [])
  | .pointer (some ⟨b, 0, none⟩) => some (.lit (.int .i64 b), [])
  | _ => none
theorem RP_inv {v : Value} {b : Nat} {ps : List MemPlace} (h : RP v = some (.lit (.int .i64 b), ps)) : v = .pointer (some ⟨b, 0, none⟩) := by
  unfold RP at h
  split at h
  · cases h
  · cases h
    rfl
  · cases h

/-- the map holds just the messages S, message i's pointer leading to block pb i -/
structure MapIs (M : Nat → HM) (S : Nat → Prop) (pb : Nat → Nat) (D : DataW Unit) : Prop where
  isMap : IsMap D
  only : ∀ kl, Maps.has D kl = true → ∃ i, S i ∧ kl = klit (M i)
  all : ∀ i, S i → Maps.has D (klit (M i)) = true ∧ ∀ zd, D.atKey (klit (M i)) zd = .lit (.int .i64 (pb i))

theorem MapIs.empty (M : Nat → HM) (pb : Nat → Nat) : MapIs M (fun _ => False) pb (.map []) :=
  ⟨⟨_, rfl⟩, fun kl h => by simp [Maps.has] at h, fun i h => h.elim⟩

theorem MapIs.put {M : Nat → HM} {S : Nat → Prop} {pb : Nat → Nat} {D : DataW Unit} (h : MapIs M S pb D) (k b : Nat) (hne : ∀ i, S i → klit (M i) ≠ klit (M k)) :
    MapIs M (fun i => S i ∨ i = k) (fun i => if i = k then b else pb i) (D.put (klit (M k)) (.lit (.int .i64 b))) := by
  refine ⟨?_, fun kl hk => ?_, fun i hi => ?_⟩
  · obtain ⟨es, rfl⟩ := h.isMap
    exact ⟨_, rfl⟩
  · by_cases e : kl = klit (M k)
    · exact ⟨k, .inr rfl, e⟩
    · rw [has_put_other e] at hk
      obtain ⟨i, hi, he⟩ := h.only kl hk
      exact ⟨i, .inl hi, he⟩
  · by_cases e : i = k
    · subst e
      exact ⟨has_put_same h.isMap (klit_key _) _, fun zd => by rw [atKey_put_same h.isMap (klit_key _), if_pos rfl]⟩
    · have hi' : S i := hi.resolve_right e
      rw [if_neg e, has_put_other (hne i hi')]
      exact ⟨(h.all i hi').1, fun zd => by rw [atKey_put_other (hne i hi')]; exact (h.all i hi').2 zd⟩

theorem MapIs.del {M : Nat → HM} {S : Nat → Prop} {pb : Nat → Nat} {D : DataW Unit} (h : MapIs M S pb D) (k : Nat) (hne : ∀ i, S i → i ≠ k → klit (M i) ≠ klit (M k)) :
    MapIs M (fun i => S i ∧ i ≠ k) pb (D.del (klit (M k))) := by
  refine ⟨?_, fun kl hk => ?_, fun i hi => ?_⟩
  · obtain ⟨es, rfl⟩ := h.isMap
    exact ⟨_, rfl⟩
  · by_cases e : kl = klit (M k)
    · rw [e, has_del_same] at hk
      cases hk
    · rw [has_del_other e] at hk
      obtain ⟨i, hi, he⟩ := h.only kl hk
      exact ⟨i, ⟨hi, fun h2 => e (by rw [he, h2])⟩, he⟩
  · rw [has_del_other (hne i hi.1 hi.2)]
    exact ⟨(h.all i hi.1).1, fun zd => by rw [atKey_del_other (hne i hi.1 hi.2)]; exact (h.all i hi.1).2 zd⟩

theorem zero63 (w : World) : (zeroValue 63).run Try.prog w = .ok (.pointer none) w := by kernel_rfl

/-- the look-up of a message that is held -/
theorem look_held {M : Nat → HM} {S : Nat → Prop} {pb : Nat → Nat} {D : DataW Unit} {w : World} {b n i : Nat} (hown : w.ownsMap Try.prog 78 RP b n D) (h : MapIs M S pb D) (hi : S i) (hw : (M i).Wf) :
    (Instr.lookup 52 (.map (some b)) (keyV (M i)) false).run Try.prog w = .ok (.pointer (some ⟨pb i, 0, none⟩)) w := by
  obtain ⟨v, ps, hrun, hv⟩ := hown.lookup law Try.underlying52 (zero63 w) (zd := .nil) (zp := []) rfl (keyOf_mk (M i) hw)
  rw [(h.all i hi).2] at hv
  rw [hrun, RP_inv hv]
end Go.Proofs.Qxb6613072a
