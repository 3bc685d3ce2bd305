/- What a joiner holds; what incomplete gives. -/
import Derived.Test.Qxb6613072aRange
import Derived.Test.Qxb6613072aEnts
namespace Go.Proofs.Qxb6613072a
open Go.RowKit Go.Maps Go.Sort

/-- a joiner that holds just the messages Hd -/
structure JH (M : Nat → HM) (Hd : Nat → Prop) (pb : Nat → Nat) (w : World) (jb mb : Nat) : Prop where
  km : w.cell? ⟨jb, 0, none⟩ = some (.map (some mb))
  own : ∃ n D, n ≤ 4096 ∧ w.ownsMap Try.prog 78 RP mb n D ∧ MapIs M Hd pb D
  wf : ∀ i, Hd i → (M i).Wf
  held : ∀ i, Hd i → Held1 w (pb i) i (M i) (M i).sn
  sn : ∀ i, Hd i → (M i).sn ≤ 254
  ne : ∀ i j, Hd i → Hd j → i ≠ j → klit (M i) ≠ klit (M j)
  nmb : ∀ i, Hd i → pb i ≠ mb ∧ pb i + 1 ≠ mb
  jmb : jb ≠ mb

/-- .. or one that has no map yet -/
structure JHo (M : Nat → HM) (Hd : Nat → Prop) (pb : Nat → Nat) (w : World) (jb : Nat) (mo : Option Nat) : Prop where
  km : w.cell? ⟨jb, 0, none⟩ = some (.map mo)
  has : ∀ mb, mo = some mb → JH M Hd pb w jb mb
  no : mo = none → ∀ i, ¬ Hd i

theorem held1_gb {w w' : World} {B : Nat} {k : Int} {m : HM} {sn : Nat} {row : Option Nat} (h : Held1 w B k m sn) (g : w.grownBy w' row) (h1 : some B ≠ row) (h2 : some (B + 1) ≠ row) : Held1 w' B k m sn :=
  ⟨g.cell h.c0 h1, g.cell h.c4 h1, g.cell h.c5 h1, g.cell h.c6 h1, g.cell h.c7 h1, fun t ht => g.cell (h.qs t ht) h2, by obtain ⟨f, hf, hi⟩ := h.rs; exact ⟨f, rowIs_grown hf g h2, hi⟩⟩

theorem JH.grown {M : Nat → HM} {Hd : Nat → Prop} {pb : Nat → Nat} {w w' : World} {jb mb : Nat} (h : JH M Hd pb w jb mb) (g : w.grownBy w' none) : JH M Hd pb w' jb mb := by
  obtain ⟨n, D, hn, ho, hm⟩ := h.own
  exact ⟨g.cell h.km (by simp), ⟨n, D, hn, ho.kept g (by simp), hm⟩, h.wf, fun i hi => held1_gb (h.held i hi) g (by simp) (by simp), h.sn, h.ne, h.nmb, h.jmb⟩

theorem JHo.grown {M : Nat → HM} {Hd : Nat → Prop} {pb : Nat → Nat} {w w' : World} {jb : Nat} {mo : Option Nat} (h : JHo M Hd pb w jb mo) (g : w.grownBy w' none) : JHo M Hd pb w' jb mo :=
  ⟨g.cell h.km (by simp), fun mb e => (h.has mb e).grown g, h.no⟩

/-- ix counts up just those of P -/
structure Enum (P : Nat → Prop) (L : Nat) (ix : Nat → Nat) : Prop where
  mem : ∀ t, t < L → P (ix t)
  all : ∀ i, P i → ∃ t, t < L ∧ ix t = i
  mono : ∀ s t, s < t → t < L → ix s < ix t

/-- the list that incomplete gives -/
structure IncOut (M : Nat → HM) (Hd : Nat → Prop) (y : Int) (w : World) (L lb : Nat) (ix : Nat → Nat) (w' : World) : Prop where
  gb : w.grownBy w' none
  le : L ≤ 4096
  enum : Enum (fun i => Hd i ∧ (M i).lat < y) L ix
  hlb : w.heap.size ≤ lb
  ents : ∀ t, t < L → ∃ hb, w.heap.size ≤ hb ∧ Inc1 w' lb (t * 9) hb (M (ix t))

/-- a joiner some of whose messages have been struck: t of the list -/
structure ExR (M : Nat → HM) (Hd : Nat → Prop) (pb : Nat → Nat) (y : Int) (w : World) (jb : Nat) (mo : Option Nat) (L lb : Nat) (ix : Nat → Nat) (t : Nat) (wr : World) : Prop where
  gb : w.grownBy wr mo
  own : ∀ mb, mo = some mb → ∃ n D, n ≤ 4096 ∧ wr.ownsMap Try.prog 78 RP mb n D ∧ MapIs M (fun i => Hd i ∧ ∀ s, s < t → ix s ≠ i) pb D
  ents : ∀ t, t < L → ∃ hb, w.heap.size ≤ hb ∧ Inc1 wr lb (t * 9) hb (M (ix t))

theorem exR_start {M : Nat → HM} {Hd : Nat → Prop} {pb : Nat → Nat} {y : Int} {w w' : World} {jb : Nat} {mo : Option Nat} {L lb : Nat} {ix : Nat → Nat} (hJ : JHo M Hd pb w jb mo) (h : IncOut M Hd y w L lb ix w') : ExR M Hd pb y w jb mo L lb ix 0 w' := by
  refine ⟨gb_but h.gb _, fun mb e => ?_, h.ents⟩
  obtain ⟨n, D, hn, ho, hm⟩ := (hJ.has mb e).own
  exact ⟨n, D, hn, ho.kept h.gb (by simp), hm.isMap, fun kl hk => by obtain ⟨i, hi, e⟩ := hm.only kl hk; exact ⟨i, ⟨hi, fun s hs => by omega⟩, e⟩, fun i hi => hm.all i hi.1⟩

theorem exR_step {M : Nat → HM} {Hd : Nat → Prop} {pb : Nat → Nat} {y : Int} {w wr w1 w2 : World} {jb mb : Nat} {L lb : Nat} {ix : Nat → Nat} {t n : Nat} {D : DataW Unit} (hJ : JH M Hd pb w jb mb) (hE : Enum (fun i => Hd i ∧ (M i).lat < y) L ix) (hlb : w.heap.size ≤ lb) (ht : t < L)
    (hR : ExR M Hd pb y w jb (some mb) L lb ix t wr) (hn : n ≤ 4096) (hm : MapIs M (fun i => Hd i ∧ ∀ s, s < t → ix s ≠ i) pb D) (h1 : wr.grownBy w1 none) (h2 : w1.grownBy w2 (some mb)) (ho : w2.ownsMap Try.prog 78 RP mb n (D.del (klit (M (ix t))))) :
    ExR M Hd pb y w jb (some mb) L lb ix (t + 1) w2 := by
  have hg : wr.grownBy w2 (some mb) := gb_trans (gb_but h1 _) h2
  have hmb : mb < w.heap.size := by obtain ⟨n, D, _, ho, _⟩ := hJ.own; exact ho.lt
  refine ⟨gb_trans hR.gb hg, fun mb' e => ?_, fun s hs => ?_⟩
  · cases e
    have hd := hm.del (ix t) (fun i hi hne => hJ.ne i (ix t) hi.1 (hE.mem t ht).1 hne)
    refine ⟨n, _, hn, ho, hd.isMap, fun kl hk => ?_, fun i hi => hd.all i ⟨⟨hi.1, fun s hs => hi.2 s (by omega)⟩, fun e => hi.2 t (by omega) e.symm⟩⟩
    obtain ⟨i, ⟨⟨hi, hi2⟩, hi3⟩, e⟩ := hd.only kl hk
    refine ⟨i, ⟨hi, fun s hs => ?_⟩, e⟩
    by_cases es : s = t
    · subst es; exact fun e => hi3 e.symm
    · exact hi2 s (by omega)
  · obtain ⟨hb, h1, h2⟩ := hR.ents s hs
    exact ⟨hb, h1, h2.grown hg (by simp; omega) (by simp; omega)⟩

/-- Expire is done -/
structure ExOut (M : Nat → HM) (Hd : Nat → Prop) (pb : Nat → Nat) (y : Int) (w : World) (jb : Nat) (mo : Option Nat) (L lb : Nat) (ix : Nat → Nat) (w' : World) : Prop where
  gb : w.grownBy w' mo
  le : L ≤ 4096
  enum : Enum (fun i => Hd i ∧ (M i).lat < y) L ix
  ents : ∀ t, t < L → ∃ hb, w.heap.size ≤ hb ∧ Inc1 w' lb (t * 9) hb (M (ix t))
  hlb : w.heap.size ≤ lb
  jh : JHo M (fun i => Hd i ∧ ¬ (M i).lat < y) pb w' jb mo

theorem exR_end {M : Nat → HM} {Hd : Nat → Prop} {pb : Nat → Nat} {y : Int} {w w' : World} {jb : Nat} {mo : Option Nat} {L lb : Nat} {ix : Nat → Nat} (hJ : JHo M Hd pb w jb mo) (hl : L ≤ 4096) (hE : Enum (fun i => Hd i ∧ (M i).lat < y) L ix) (hlb : w.heap.size ≤ lb) (h : ExR M Hd pb y w jb mo L lb ix L w') : ExOut M Hd pb y w jb mo L lb ix w' := by
  have hk : w'.cell? ⟨jb, 0, none⟩ = some (.map mo) := h.gb.cell hJ.km (by
    cases mo with
    | none => simp
    | some mb => simp; exact (hJ.has mb rfl).jmb)
  refine ⟨h.gb, hl, hE, h.ents, hlb, hk, fun mb e => ?_, fun e i hi => hJ.no e i hi.1⟩
  subst e
  have J := hJ.has mb rfl
  obtain ⟨n, D, hn, ho, hm⟩ := h.own mb rfl
  refine ⟨hk, ⟨n, D, hn, ho, hm.isMap, fun kl hk => ?_, fun i hi => hm.all i ⟨hi.1, fun s hs e => hi.2 (e ▸ (hE.mem s hs).2)⟩⟩, fun i hi => J.wf i hi.1, fun i hi => held1_gb (J.held i hi.1) h.gb (by simp; exact (J.nmb i hi.1).1) (by simp; exact (J.nmb i hi.1).2), fun i hi => J.sn i hi.1, fun i j hi hj => J.ne i j hi.1 hj.1, fun i hi => J.nmb i hi.1, J.jmb⟩
  obtain ⟨i, ⟨hi, hi2⟩, e⟩ := hm.only kl hk
  refine ⟨i, ⟨hi, fun hlt => ?_⟩, e⟩
  obtain ⟨s, hs, e⟩ := hE.all i ⟨hi, hlt⟩
  exact hi2 s hs e
end Go.Proofs.Qxb6613072a
