/- incomplete's first loop: its relation, and its steps in plain words. -/
import Derived.Test.Qxb6613072aJoin
import Derived.Maps.AppendAt
namespace Go.Proofs.Qxb6613072a
open Go.RowKit Go.Maps Go.Sort

/-- a key's five cells -/
def enc5 (M : Nat → HM) {Hd : Nat → Prop} (x : { i : Nat // Hd i }) : List Value := [.string (M x.1).o, .int .i64 (M x.1).ref, .int .i64 (M x.1).tot, .int .u8 (M x.1).el, .int .u8 (M x.1).ty]

/-- the first loop of incomplete: what has come, what is to come -/
structure IncP (M : Nat → HM) (Hd : Nat → Prop) (y : Int) (w : World) (jb mb : Nat) (n : Nat) (D : DataW Unit) (N : Nat) (left : Lit → Bool) (cnt : Nat) (ks : List { i : Nat // Hd i }) (v : Value) (wr : World) : Prop where
  rg : wr.ranges Try.prog 78 RP mb (N + 1 + 1) n D left cnt
  sub : ∀ kl, left kl = true → Maps.has D kl = true
  row : wr.rowIs (N + 1) 86 1 (fun _ => v)
  own : wr.ownsRow (N + 3) 78 5 v ks.length (ks.flatMap (enc5 M))
  nodup : ks.Nodup
  mem : ∀ x ∈ ks, (M x.1).lat < y ∧ left (klit (M x.1)) = false
  all : ∀ i (h : Hd i), (M i).lat < y → left (klit (M i)) = true ∨ ⟨i, h⟩ ∈ ks
  kj : wr.cell? ⟨N, 0, none⟩ = some (.pointer (some ⟨jb, 0, none⟩))
  gb : w.grownBy wr none
  size : N + 3 ≤ wr.heap.size
  le : ks.length + cnt ≤ n
def IncR (M : Nat → HM) (Hd : Nat → Prop) (y : Int) (w : World) (jb mb : Nat) (n : Nat) (D : DataW Unit) (N : Nat) (wr : World) : Prop :=
  ∃ (left : Lit → Bool) (cnt : Nat) (ks : List { i : Nat // Hd i }) (v : Value), IncP M Hd y w jb mb n D N left cnt ks v wr

variable {M : Nat → HM} {Hd : Nat → Prop} {y : Int} {w : World} {jb mb n N : Nat} {D : DataW Unit} {left : Lit → Bool} {cnt : Nat} {ks : List { i : Nat // Hd i }} {v : Value} {wr : World}

theorem IncP.ne (H : IncP M Hd y w jb mb n D N left cnt ks v wr) : v.ownBlock = none ∨ v.ownBlock ≠ some (N + 1 + 1) := by
  cases hb : v.ownBlock with
  | none => exact .inl rfl
  | some g' =>
    refine .inr ?_
    have := (H.own.lt g' hb).1
    simp
    omega
theorem five_new (x : { i : Nat // Hd i }) (W : World) : ∀ j u, (enc5 M x)[j]? = some u → (W.alloc (.cells #[.string (M x.1).o, .int .i64 (M x.1).ref, .int .i64 (M x.1).tot, .int .u8 (M x.1).el, .int .u8 (M x.1).ty] 78)).cell? ((⟨W.heap.size, 0, none⟩ : Addr).add j) = some u := by
  intro j u hj
  match j, hj with
  | 0, hj | 1, hj | 2, hj | 3, hj | 4, hj => simp [enc5] at hj; subst hj; simp [Addr.add]
theorem five_one (x : { i : Nat // Hd i }) : ∀ u ∈ enc5 M x, u.oneCell' = true := by
  intro u hu
  simp [enc5] at hu
  rcases hu with rfl | rfl | rfl | rfl | rfl <;> rfl
theorem IncP.old (H : IncP M Hd y w jb mb n D N left cnt ks v wr) {w1 w4 w5 : World} (hg1 : wr.grownBy w1 (some (N + 1 + 1))) (hg4 : w1.grownBy w4 none) (hg5 : w4.grownBy w5 v.ownBlock) : w5.rowIs (N + 1) 86 1 (fun _ => v) := by
  refine rowIs_grown (rowIs_grown H.row (gb_trans hg1 (gb_but hg4 _)) (by simp)) hg5 (fun e => ?_)
  have := (H.own.lt _ e.symm).1
  omega

theorem slice_of_owns {W : World} {b n' : Nat} {u : Value} {xs : List Value} (h : W.ownsRow b 78 5 u n' xs) : ∃ p k c, u = .slice p k c := by
  rcases h.2 with ⟨rfl, _⟩ | ⟨g, c, cur, rfl, _⟩
  · exact ⟨_, _, _, rfl⟩
  · exact ⟨_, _, _, rfl⟩

theorem IncP.skip (H : IncP M Hd y w jb mb n D N left cnt ks v wr) (hN : w.heap.size = N) {i : Nat} {w1 w3 : World} {cnt' : Nat} (hrg : w1.ranges Try.prog 78 RP mb (N + 1 + 1) n D (fun z => left z && !z.sameKey (klit (M i))) cnt') (hlt : cnt' < cnt)
    (hg1 : wr.grownBy w1 (some (N + 1 + 1))) (hg3 : w1.grownBy w3 none) (hno : ¬ (M i).lat < y) (hne : ∀ j, Hd j → j ≠ i → klit (M j) ≠ klit (M i)) : IncP M Hd y w jb mb n D N (fun z => left z && !z.sameKey (klit (M i))) cnt' ks v w3 := by
  have g : wr.grownBy w3 (some (N + 1 + 1)) := gb_trans hg1 (gb_but hg3 _)
  refine ⟨hrg.kept hg3 (by simp) (by simp), fun kl h => H.sub kl (by simp at h; exact h.1), rowIs_grown H.row g (by simp), H.own.kept g ?_, H.nodup, fun x hx => ⟨(H.mem x hx).1, by simp [(H.mem x hx).2]⟩, fun j hj hl => ?_, g.cell H.kj (by simp; omega), gb_later H.gb g (by omega), Nat.le_trans H.size g.size, by have := H.le; omega⟩
  · cases hb : v.ownBlock with
    | none => exact .inl rfl
    | some g' =>
      refine .inr ?_
      have := (H.own.lt g' hb).1
      simp
      omega
  · rcases H.all j hj hl with h | h
    · refine .inl ?_
      have : (klit (M j)).sameKey (klit (M i)) = false := sameKey_ne (hne j hj (fun e => hno (e ▸ hl)))
      simp [h, this]
    · exact .inr h

theorem IncP.add (H : IncP M Hd y w jb mb n D N left cnt ks v wr) (hN : w.heap.size = N) {i : Nat} (hi : Hd i) (hli : left (klit (M i)) = true) {w1 w4 w5 : World} {v' : Value} {cnt' : Nat} (hrg : w1.ranges Try.prog 78 RP mb (N + 1 + 1) n D (fun z => left z && !z.sameKey (klit (M i))) cnt') (hlt : cnt' < cnt)
    (hg1 : wr.grownBy w1 (some (N + 1 + 1))) (hg4 : w1.grownBy w4 none) (hyes : (M i).lat < y) (hne : ∀ j, Hd j → j ≠ i → klit (M j) ≠ klit (M i))
    (hg5 : w4.grownBy w5 v.ownBlock) (hown : w5.ownsRow (N + 3) 78 5 v' (ks.length + 1) (ks.flatMap (enc5 M) ++ enc5 M ⟨i, hi⟩)) (hmb : mb < N) :
    IncP M Hd y w jb mb n D N (fun z => left z && !z.sameKey (klit (M i))) cnt' (ks ++ [⟨i, hi⟩]) v' (w5.setCell (⟨N + 1, 0, none⟩ : Addr) v') := by
  have hs := H.size
  have g4 : wr.grownBy w4 (some (N + 1 + 1)) := gb_trans hg1 (gb_but hg4 _)
  have hv : ∀ b, b < N + 3 → some b ≠ v.ownBlock := fun b hb e => by have := (H.own.lt b e.symm).1; omega
  have hw5 : w.grownBy w5 none := by
    have a : w.grownBy w4 none := gb_later H.gb g4 (by omega)
    refine ⟨hg5.os.trans a.os, hg5.tape.trans a.tape, hg5.output.trans a.output, Nat.le_trans a.size hg5.size, fun k hk hr => (hg5.block k (Nat.lt_of_lt_of_le hk a.size) (hv k (by omega))).trans (a.block k hk hr)⟩
  have R5 : w5.rowIs (N + 1) 86 1 (fun _ => v) := rowIs_grown (rowIs_grown H.row g4 (by simp)) hg5 (hv _ (by omega))
  have hset : w5.grownBy (w5.setCell (⟨N + 1, 0, none⟩ : Addr) v') (some (N + 1)) := gb_setCell (gb_refl _ _) (.inr rfl) _
  have hrg5 : w5.ranges Try.prog 78 RP mb (N + 1 + 1) n D (fun z => left z && !z.sameKey (klit (M i))) cnt' := (hrg.kept hg4 (by simp) (by simp)).kept hg5 (hv _ (by omega)) (hv _ (by omega))
  refine ⟨hrg5.kept hset (by simp; omega) (by simp), fun kl h => H.sub kl (by simp at h; exact h.1), ?_, ?_, ?_, fun x hx => ?_, fun j hj hl => ?_, ?_, gb_later hw5 hset (by omega), Nat.le_trans hs (Nat.le_trans g4.size (Nat.le_trans hg5.size hset.size)), by have := H.le; simp; omega⟩
  · exact (R5.set 0 v').congr fun j hj => by simp; omega
  · have h1 : w5.ownsRow (N + 3) 78 5 v' (ks ++ [(⟨i, hi⟩ : { i : Nat // Hd i })]).length ((ks ++ [(⟨i, hi⟩ : { i : Nat // Hd i })]).flatMap (enc5 M)) := by simpa using hown
    refine h1.kept hset ?_
    cases hb : v'.ownBlock with
    | none => exact .inl rfl
    | some g' =>
      refine .inr ?_
      have := (h1.lt g' hb).1
      simp
      omega
  · rw [List.nodup_append]
    refine ⟨H.nodup, by simp, fun a ha b hb e => ?_⟩
    simp at hb
    subst hb e
    have := (H.mem _ ha).2
    simp [hli] at this
  · rcases List.mem_append.1 hx with h | h
    · exact ⟨(H.mem x h).1, by simp [(H.mem x h).2]⟩
    · simp at h
      subst h
      exact ⟨hyes, by simp [WideAt.sameKey_self (klit_key (M i))]⟩
  · by_cases e : j = i
    · subst e
      exact .inr (by simp)
    · rcases H.all j hj hl with h | h
      · refine .inl ?_
        have : (klit (M j)).sameKey (klit (M i)) = false := sameKey_ne (hne j hj e)
        simp [h, this]
      · exact .inr (List.mem_append_left _ h)
  · exact hset.cell (hg5.cell (g4.cell H.kj (by simp; omega)) (hv _ (by simp))) (by simp)
end Go.Proofs.Qxb6613072a
