/- incomplete: what a joiner holds, what each part of the walk leaves, in plain words. -/
import Derived.Test.Qxb6613072aSort
namespace Go.Proofs.Qxb6613072a
open Go.RowKit Go.Maps Go.Sort

theorem perm_of_permIn {α : Type} [Inhabited α] {d d' : Array α} (h : PermIn 0 d.size d d') : d'.toList.Perm d.toList := by
  have h1 := h.2.2
  rw [← h.1] at h1
  have e : d'.extract 0 d'.size = d' := by simp
  have e2 : d.extract 0 d'.size = d := by rw [h.1]; simp
  rw [e, e2] at h1
  exact h1

theorem enum_sorted {Hd : Nat → Prop} [Inhabited { i : Nat // Hd i }] {ks : List { i : Nat // Hd i }} {P : Nat → Prop} (hn : ks.Nodup) (hP : ∀ i, P i → Hd i) (hm : ∀ i (h : Hd i), P i ↔ ⟨i, h⟩ ∈ ks) {d' : Array { i : Nat // Hd i }}
    (hp : PermIn 0 ks.toArray.size ks.toArray d') (hs : SortedIn (lt5 (Hd := Hd)) 0 ks.toArray.size d') : Enum P ks.length (fun t => (d'[t]!).1) := by
  have hpm := perm_of_permIn hp
  have hsz : d'.size = ks.length := by rw [hp.1]; simp
  simp only [List.size_toArray] at hs
  refine ⟨fun t ht => ?_, fun i hi => ?_, fun s t hst ht => ?_⟩
  · have h1 : d'[t]! ∈ d'.toList := by rw [getElem!_pos d' t (by omega)]; simp
    have := hpm.mem_iff.1 h1
    exact (hm _ (d'[t]!).2).2 (by simpa using this)
  · have h1 : (⟨i, hP i hi⟩ : { i : Nat // Hd i }) ∈ d'.toList := hpm.mem_iff.2 (by simpa using (hm i (hP i hi)).1 hi)
    obtain ⟨t, ht, e⟩ := List.getElem_of_mem h1
    simp at ht e
    refine ⟨t, by omega, ?_⟩
    rw [getElem!_pos d' t ht, e]
  · have h1 := hs s t (Nat.zero_le _) hst ht
    have hnd : d'.toList.Nodup := hpm.nodup_iff.2 (by simpa using hn)
    have h2 : d'[s]! ≠ d'[t]! := by
      rw [getElem!_pos d' s (by omega), getElem!_pos d' t (by omega)]
      intro e
      exact (List.pairwise_iff_getElem.1 hnd) s t (by simp; omega) (by simp; omega) hst (by simpa using e)
    have h3 : ¬ (d'[t]!).1 < (d'[s]!).1 := by simpa [lt5] using h1
    have h4 : (d'[s]!).1 ≠ (d'[t]!).1 := fun e => h2 (Subtype.ext e)
    show (d'[s]!).1 < (d'[t]!).1
    omega

theorem flat_get {α : Type} [Inhabited α] (enc : α → List Value) (k : Nat) (hk : ∀ x, (enc x).length = k) : ∀ (l : List α) (t : Nat), t < l.length * k → (l.flatMap enc)[t]? = some ((enc l[t / k]!)[t % k]!)
  | [], t, h => by simp at h
  | x :: r, t, h => by
    have k0 : 0 < k := by rcases Nat.eq_zero_or_pos k with h' | h'; · subst h'; simp at h
                          · exact h'
    rw [List.flatMap_cons]
    by_cases ht : t < k
    · rw [List.getElem?_append_left (by rw [hk]; exact ht), Nat.div_eq_of_lt ht, Nat.mod_eq_of_lt ht]
      rw [List.getElem?_eq_getElem (by rw [hk]; exact ht)]
      simp [getElem!_pos (enc x) t (by rw [hk]; exact ht)]
    · have h1 : t = (t - k) + k := by omega
      have h' : t - k < r.length * k := by simp [Nat.add_mul] at h; omega
      rw [List.getElem?_append_right (by rw [hk]; omega), hk, flat_get enc k hk r (t - k) h']
      rw [show t / k = (t - k) / k + 1 by conv => lhs; rw [h1, Nat.add_div_right _ k0], show t % k = (t - k) % k by conv => lhs; rw [h1, Nat.add_mod_right]]
      simp

theorem enc5_length (M : Nat → HM) {Hd : Nat → Prop} (x : { i : Nat // Hd i }) : (enc5 M x).length = 5 := rfl

theorem holdsK_of_owns {M : Nat → HM} {Hd : Nat → Prop} [Inhabited { i : Nat // Hd i }] {w : World} {base n c g : Nat} {ks : List { i : Nat // Hd i }} (h : w.ownsRow base 78 5 (.slice (some ⟨g, 0, none⟩) n c) ks.length (ks.flatMap (enc5 M))) :
    HoldsK (enc5 M (Hd := Hd)) 5 w g 0 ks.toArray := by
  intro j hj
  rw [size_flatK] at hj
  have hj' : j < ks.length * 5 := by simpa using hj
  have hv : (Value.slice (some ⟨g, 0, none⟩) n c).ownBlock = some g := rfl
  have h1 := h.cells hv j _ (flat_get (enc5 M) 5 (fun _ => rfl) ks j hj')
  rw [show (⟨g, 0, none⟩ : Addr).add j = ⟨g, j, none⟩ by unfold Addr.add; split <;> simp_all] at h1
  rw [get_flatK _ _ _ _ hj, Nat.zero_add]
  refine ⟨by simpa using h1, ?_⟩
  rcases h.2 with ⟨h', _⟩ | ⟨g', c', cur, e, _, hblk, _⟩
  · cases h'
  · obtain ⟨rfl, _⟩ : g = g' ∧ n = ks.length := by simp at e; exact ⟨e.1, e.2.1⟩
    exact frozen_of_row w g j cur 78 hblk

/-- the keys that lie behind a slice -/
def KeysAt (M : Nat → HM) (w : World) (v : Value) (L : Nat) (ix : Nat → Nat) : Prop :=
  ∃ (a : Option Addr) (c : Nat), v = .slice a L c ∧ ∀ t, t < L → ∃ blk, a = some ⟨blk, 0, none⟩ ∧ KeyCells w blk (t * 5) (M (ix t))

/-- the first loop of incomplete is done -/
structure IncE (M : Nat → HM) (Hd : Nat → Prop) (y : Int) (w : World) (jb N : Nat) (v : Value) (L : Nat) (ks : List { i : Nat // Hd i }) (wr : World) : Prop where
  len : ks.length = L
  le : L ≤ 4096
  kj : wr.cell? ⟨N, 0, none⟩ = some (.pointer (some ⟨jb, 0, none⟩))
  kk : wr.cell? ⟨N + 1, 0, none⟩ = some v
  own : wr.ownsRow (N + 3) 78 5 v L (ks.flatMap (enc5 M))
  nodup : ks.Nodup
  mem : ∀ i (h : Hd i), (M i).lat < y ↔ ⟨i, h⟩ ∈ ks
  gb : w.grownBy wr none
  size : w.heap.size = N

/-- the keys are sorted -/
structure IncS (M : Nat → HM) (Hd : Nat → Prop) (y : Int) (w : World) (jb N : Nat) (v : Value) (L : Nat) (ix : Nat → Nat) (w2 : World) : Prop where
  le : L ≤ 4096
  kj : w2.cell? ⟨N, 0, none⟩ = some (.pointer (some ⟨jb, 0, none⟩))
  kk : w2.cell? ⟨N + 1, 0, none⟩ = some v
  keys : KeysAt M w2 v L ix
  enum : Enum (fun i => Hd i ∧ (M i).lat < y) L ix
  gb : w.grownBy w2 none

theorem sort29 {M : Nat → HM} {Hd : Nat → Prop} {pb : Nat → Nat} {y : Int} {w wr : World} {jb mb N L : Nat} {v : Value} {ks : List { i : Nat // Hd i }} (hJ : JH M Hd pb w jb mb) (hE : IncE M Hd y w jb N v L ks wr) :
    Calls Try.prog 39 #[.iface 86 v, .func (.func 40) #[] #[.pointer (some ⟨N, 0, none⟩), .pointer (some ⟨N + 1, 0, none⟩)]] wr fun e w' => e = .returned (.tuple #[]) ∧ Hid (∃ ix, IncS M Hd y w jb N v L ix w') := by
  have hJr := hJ.grown hE.gb
  obtain rfl := hE.len
  have hP : ∀ i (h : Hd i), (Hd i ∧ (M i).lat < y) ↔ ⟨i, h⟩ ∈ ks := fun i h => ⟨fun h' => (hE.mem i h).1 h'.2, fun h' => ⟨h, (hE.mem i h).2 h'⟩⟩
  have hjb : jb < N := hE.size ▸ block_lt_of_cell hJ.km
  rcases hE.own.2 with ⟨rfl, h0⟩ | ⟨g, c, cur, rfl, hb, hblk, hc, hcm, hsz, htk⟩
  · refine (sort_few none 0 0 (by omega) _ wr).mono ?_
    rintro e w' ⟨rfl, hg⟩
    refine ⟨rfl, fun _ => 0, hE.le, hg.cell hE.kj (by simp), hg.cell hE.kk (by simp), ⟨none, 0, by rw [h0], fun t ht => by omega⟩, ⟨fun t ht => by omega, fun i hi => ?_, fun s t hs ht => by omega⟩, gb_trans hE.gb hg⟩
    have := (hP i hi.1).1 hi
    rw [List.length_eq_zero_iff.1 h0] at this
    cases this
  · rcases ks with _ | ⟨k0, kr⟩
    · refine (sort_few _ 0 c (by omega) _ wr).mono ?_
      rintro e w' ⟨rfl, hg⟩
      refine ⟨rfl, fun _ => 0, hE.le, hg.cell hE.kj (by simp), hg.cell hE.kk (by simp), ⟨_, c, rfl, fun t ht => by simp at ht⟩, ⟨fun t ht => by simp at ht, fun i hi => ?_, fun s t hs ht => by simp at ht⟩, gb_trans hE.gb hg⟩
      have := (hP i hi.1).1 hi
      cases this
    · haveI : Inhabited { i : Nat // Hd i } := ⟨k0⟩
      generalize hks : k0 :: kr = ks at *
      have hH : HoldsK (enc5 M (Hd := Hd)) 5 wr g 0 ks.toArray := holdsK_of_owns hE.own
      have hg : g < wr.heap.size := (Array.getElem?_eq_some_iff.1 hblk).1
      by_cases h2 : 2 ≤ ks.length
      · have hSB : SortBase M Hd pb wr g c ks.toArray.size N (N + 1) jb mb := by
          obtain ⟨n, D, hn, ho, hm⟩ := hJr.own
          have hmb : mb < N := by obtain ⟨n, D, hn, ho, hm⟩ := hJ.own; exact hE.size ▸ ho.lt
          exact ⟨hE.kj, hJr.km, by simpa using hE.kk, ⟨n, D, ho, hm⟩, hJ.wf, fun i hi => (hJr.held i hi).c0, by omega, by omega, by omega, by omega, fun i hi => by have := block_lt_of_cell (hJ.held i hi).c0; have := hE.size; simp at *; omega⟩
        have hS := sort_many ks.toArray (by simpa using h2) (by simpa using hE.le) hSB hH hg
        simp only [List.size_toArray] at hS
        refine hS.mono ?_
        rintro e w' ⟨rfl, d', hp, hs, hH', hgr⟩
        refine ⟨rfl, fun t => (d'[t]!).1, hE.le, hgr.cell hE.kj (by simp; omega), hgr.cell hE.kk (by simp; omega), ⟨_, c, rfl, fun t ht => ⟨g, rfl, keyCells_of hH' (by rw [hp.1]; simpa using ht)⟩⟩, enum_sorted hE.nodup (fun i h => h.1) hP (by simpa using hp) (by simpa using hs), gb_later hE.gb hgr (by have := hE.size; omega)⟩
      · refine (sort_few _ _ c (by omega) _ wr).mono ?_
        rintro e w' ⟨rfl, hgr⟩
        have hH' : HoldsK (enc5 M (Hd := Hd)) 5 w' g 0 ks.toArray := holdsK_of_owns (hE.own.kept hgr (.inr (by simp [Value.ownBlock])))
        refine ⟨rfl, fun t => (ks.toArray[t]!).1, hE.le, hgr.cell hE.kj (by simp), hgr.cell hE.kk (by simp), ⟨_, c, rfl, fun t ht => ⟨g, rfl, keyCells_of hH' (by simpa using ht)⟩⟩, enum_sorted hE.nodup (fun i h => h.1) hP ⟨rfl, fun _ _ => rfl, List.Perm.refl _⟩ (fun i j _ hij hj => by simp at hj; omega), gb_trans hE.gb hgr⟩

theorem IncP.done {M : Nat → HM} {Hd : Nat → Prop} {y : Int} {w : World} {jb mb n N : Nat} {D : DataW Unit} {left : Lit → Bool} {cnt : Nat} {ks : List { i : Nat // Hd i }} {v : Value} {wr : World} (H : IncP M Hd y w jb mb n D N left cnt ks v wr) (hn : n ≤ 4096) (hd : ∀ kl, left kl = false) (hN : w.heap.size = N) : IncE M Hd y w jb N v ks.length ks wr := by
  refine ⟨rfl, by have := H.le; omega, H.kj, H.row.cell (i := 0) (by omega), H.own, H.nodup, fun i hi => ⟨fun hl => ?_, fun hm => (H.mem _ hm).1⟩, H.gb, hN⟩
  rcases H.all i hi hl with h | h
  · rw [hd] at h; cases h
  · exact h

/-- the list is filled up to t -/
structure Inc2 (M : Nat → HM) (w : World) (jb N : Nat) (a : Option Addr) (c L : Nat) (ix : Nat → Nat) (lb t : Nat) (wr : World) : Prop where
  kj : wr.cell? ⟨N, 0, none⟩ = some (.pointer (some ⟨jb, 0, none⟩))
  kk : wr.cell? ⟨N + 1, 0, none⟩ = some (.slice a L c)
  keys : ∀ s, s < L → ∃ blk, a = some ⟨blk, 0, none⟩ ∧ blk < lb ∧ KeyCells wr blk (s * 5) (M (ix s))
  row : ∃ f, wr.rowIs lb 45 (L * 9) f
  ents : ∀ s, s < t → ∃ hb, w.heap.size ≤ hb ∧ hb ≠ lb ∧ Inc1 wr lb (s * 9) hb (M (ix s))
  gb : w.grownBy wr none
  hlb : N + 1 < lb
  hw : w.heap.size ≤ lb

theorem keyCells_gb {w w' : World} {blk o : Nat} {m : HM} {row : Option Nat} (h : KeyCells w blk o m) (g : w.grownBy w' row) (hr : some blk ≠ row) : KeyCells w' blk o m :=
  ⟨g.cell h.c0 hr, g.cell h.c1 hr, g.cell h.c2 hr, g.cell h.c3 hr, g.cell h.c4 hr⟩

theorem Inc2.start {M : Nat → HM} {Hd : Nat → Prop} {y : Int} {w w2 w4 : World} {jb N L c : Nat} {a : Option Addr} {ix : Nat → Nat} (h : IncS M Hd y w jb N (.slice a L c) L ix w2) (g : w2.grownBy w4 none) {f : Nat → Value} (hr : w4.rowIs w2.heap.size 45 (L * 9) f) :
    Inc2 M w jb N a c L ix w2.heap.size 0 w4 := by
  refine ⟨g.cell h.kj (by simp), g.cell h.kk (by simp), fun s hs => ?_, ⟨f, hr⟩, fun s hs => by omega, gb_trans h.gb g, block_lt_of_cell h.kk, h.gb.size⟩
  obtain ⟨a', c', e, hk⟩ := h.keys
  cases e
  obtain ⟨blk, rfl, hc⟩ := hk s hs
  exact ⟨blk, rfl, block_lt_of_cell hc.c0, keyCells_gb hc g (by simp)⟩

theorem Inc2.grown {M : Nat → HM} {w wr w' : World} {jb N L c lb t : Nat} {a : Option Addr} {ix : Nat → Nat} (h : Inc2 M w jb N a c L ix lb t wr) (g : wr.grownBy w' none) : Inc2 M w jb N a c L ix lb t w' := by
  refine ⟨g.cell h.kj (by simp), g.cell h.kk (by simp), fun s hs => ?_, ?_, fun s hs => ?_, gb_trans h.gb g, h.hlb, h.hw⟩
  · obtain ⟨blk, e, hl, hc⟩ := h.keys s hs
    exact ⟨blk, e, hl, keyCells_gb hc g (by simp)⟩
  · obtain ⟨f, hf⟩ := h.row
    exact ⟨f, rowIs_grown hf g (by simp)⟩
  · obtain ⟨hb, h1, h2, h3⟩ := h.ents s hs
    exact ⟨hb, h1, h2, h3.grown g (by simp) (by simp)⟩

/-- nine cells stored from place o on -/
def set9 (w : World) (lb o : Nat) (m : HM) (hb : Nat) : World :=
  ((((((((w.setCell ⟨lb, o, none⟩ (.int .u8 m.ty)).setCell ⟨lb, o + 1, none⟩ (.string m.o)).setCell ⟨lb, o + 2, none⟩ (.int .u8 m.el)).setCell ⟨lb, o + 3, none⟩ (.int .i64 m.ref)).setCell ⟨lb, o + 4, none⟩ (.int .i64 m.tot)).setCell ⟨lb, o + 5, none⟩ (.slice (some ⟨hb, 0, none⟩) m.sn m.sn)).setCell ⟨lb, o + 6, none⟩ (.int .u64 (m.lat % 1000000000))).setCell ⟨lb, o + 7, none⟩ (.int .i64 (m.lat / 1000000000))).setCell ⟨lb, o + 8, none⟩ (.pointer none)

theorem gb_set1 {a c : World} {b : Nat} (h : a.grownBy c (some b)) (o : Nat) (v : Value) : a.grownBy (c.setCell ⟨b, o, none⟩ v) (some b) := gb_setCell h (.inr rfl) v
theorem set9_gb (w : World) (lb o : Nat) (m : HM) (hb : Nat) : w.grownBy (set9 w lb o m hb) (some lb) := by
  unfold set9
  exact gb_set1 (gb_set1 (gb_set1 (gb_set1 (gb_set1 (gb_set1 (gb_set1 (gb_set1 (gb_set1 (gb_refl _ _) _ _) _ _) _ _) _ _) _ _) _ _) _ _) _ _) _ _

theorem set9_row {w : World} {lb n : Nat} {f : Nat → Value} (h : w.rowIs lb 45 n f) (o : Nat) (m : HM) (hb : Nat) : (set9 w lb o m hb).rowIs lb 45 n (fun j => if j = o + 8 then .pointer none else if j = o + 7 then .int .i64 (m.lat / 1000000000) else if j = o + 6 then .int .u64 (m.lat % 1000000000) else if j = o + 5 then .slice (some ⟨hb, 0, none⟩) m.sn m.sn else if j = o + 4 then .int .i64 m.tot else if j = o + 3 then .int .i64 m.ref else if j = o + 2 then .int .u8 m.el else if j = o + 1 then .string m.o else if j = o then .int .u8 m.ty else f j) :=
  ((((((((h.set o _).set (o + 1) _).set (o + 2) _).set (o + 3) _).set (o + 4) _).set (o + 5) _).set (o + 6) _).set (o + 7) _).set (o + 8) _

theorem Inc2.step {M : Nat → HM} {w wr : World} {jb N L c lb t hb : Nat} {a : Option Addr} {ix : Nat → Nat} (h : Inc2 M w jb N a c L ix lb t wr) (ht : t < L) (h1 : w.heap.size ≤ hb) (h2 : hb ≠ lb) (hq : ∀ s, s < (M (ix t)).sn → wr.cell? ⟨hb, s, none⟩ = some (.int .i64 ((M (ix t)).q s))) :
    Inc2 M w jb N a c L ix lb (t + 1) (set9 wr lb (t * 9) (M (ix t)) hb) := by
  have g := set9_gb wr lb (t * 9) (M (ix t)) hb
  obtain ⟨f, hf⟩ := h.row
  have R := set9_row hf (t * 9) (M (ix t)) hb
  have hl := h.hlb
  refine ⟨g.cell h.kj (by simp; omega), g.cell h.kk (by simp; omega), fun s hs => ?_, ⟨_, R⟩, fun s hs => ?_, gb_later h.gb g h.hw, h.hlb, h.hw⟩
  · obtain ⟨blk, e, hl, hc⟩ := h.keys s hs
    exact ⟨blk, e, hl, keyCells_gb hc g (by simp; omega)⟩
  · by_cases e : s = t
    · subst e
      refine ⟨hb, h1, h2, ?_, ?_, ?_, ?_, ?_, ?_, ?_, ?_, ?_, fun k hk => g.cell (hq k hk) (by simp; exact h2)⟩
      · rw [R.cell (by omega)]; simp
      · rw [R.cell (by omega)]; simp
      · rw [R.cell (by omega)]; simp
      · rw [R.cell (by omega)]; simp
      · rw [R.cell (by omega)]; simp
      · rw [R.cell (by omega)]; simp
      · rw [R.cell (by omega)]; simp
      · rw [R.cell (by omega)]; simp
      · rw [R.cell (by omega)]; simp
    · obtain ⟨hb', e1, e2, e3⟩ := h.ents s (by omega)
      have K : ∀ (j : Nat) (u : Value), j < 9 → wr.cell? ⟨lb, s * 9 + j, none⟩ = some u → (set9 wr lb (t * 9) (M (ix t)) hb).cell? ⟨lb, s * 9 + j, none⟩ = some u := by
        intro j u hj hu
        rw [hf.cell (by omega)] at hu
        rw [R.cell (by omega), ← hu]
        simp only [show ¬ s * 9 + j = t * 9 + 8 by omega, show ¬ s * 9 + j = t * 9 + 7 by omega, show ¬ s * 9 + j = t * 9 + 6 by omega, show ¬ s * 9 + j = t * 9 + 5 by omega, show ¬ s * 9 + j = t * 9 + 4 by omega, show ¬ s * 9 + j = t * 9 + 3 by omega, show ¬ s * 9 + j = t * 9 + 2 by omega, show ¬ s * 9 + j = t * 9 + 1 by omega, show ¬ s * 9 + j = t * 9 by omega, if_false]
      exact ⟨hb', e1, e2, K 0 _ (by omega) e3.c0, K 1 _ (by omega) e3.c1, K 2 _ (by omega) e3.c2, K 3 _ (by omega) e3.c3, K 4 _ (by omega) e3.c4, K 5 _ (by omega) e3.c5, K 6 _ (by omega) e3.c6, K 7 _ (by omega) e3.c7, K 8 _ (by omega) e3.c8, fun k hk => g.cell (e3.qs k hk) (by simp; exact e2)⟩

theorem Inc2.out {M : Nat → HM} {Hd : Nat → Prop} {y : Int} {w wr : World} {jb N L c lb : Nat} {a : Option Addr} {ix : Nat → Nat} (h : Inc2 M w jb N a c L ix lb L wr) (hl : L ≤ 4096) (he : Enum (fun i => Hd i ∧ (M i).lat < y) L ix) : IncOut M Hd y w L lb ix wr :=
  ⟨h.gb, hl, he, h.hw, fun t ht => by obtain ⟨hb, h1, _, h3⟩ := h.ents t ht; exact ⟨hb, h1, h3⟩⟩
end Go.Proofs.Qxb6613072a
