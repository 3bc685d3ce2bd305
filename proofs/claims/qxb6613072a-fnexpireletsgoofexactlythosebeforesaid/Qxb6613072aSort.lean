/- sort.Slice over the keys of held messages: by the order in which they began. -/
import Derived.Test.Qxb6613072aIncp
import Derived.Test.Qxb6613072aShelf
import Derived.Shelf.GgSortFunc.Tiny
namespace Go.Proofs.Qxb6613072a
open Go.RowKit Go.Sort Go.Maps Go.Shelf Go.Lib

/-- which began first -/
def lt5 {Hd : Nat → Prop} (x y : { i : Nat // Hd i }) : Bool := decide (((x.1 : Nat) : Int) < ((y.1 : Nat) : Int))
theorem swo5 {Hd : Nat → Prop} : SWO (lt5 (Hd := Hd)) :=
  ⟨fun x => by simp [lt5], fun x y z h1 h2 => by simp [lt5] at *; omega, fun x y z h1 h2 => by simp [lt5] at *; omega⟩

theorem gb_sort {α : Type} [Inhabited α] (enc : α → List Value) (k : Nat) (w : World) (m blk off : Nat) (dk : Array α) (os : Array Obj) : w.grownBy (grow (putRowK enc k (Sort.ahead w m) blk off dk) os) (some blk) := by
  refine ⟨rfl, rfl, rfl, ?_, fun i hi hr => ?_⟩
  · simp [grow, putRowK, putRow, mapBlock, Sort.ahead]
  · have hne : blk ≠ i := fun e => hr (by rw [e])
    simp only [grow, putRowK, putRow, mapBlock, Sort.ahead]
    rw [Array.getElem?_append_left (by simpa using hi), Array.getElem?_modify, if_neg hne]

noncomputable def svT : TypeInfo := (Try.prog.info? 86).get (by kernel_rfl)
noncomputable def svE : TypeInfo := (Try.prog.info? 78).get (by kernel_rfl)
theorem svK (n : Nat) (h2 : 2 ≤ n) : Lib.swapperK n svE 25 = 9 := by
  have a : svE.hasPointers = true := by kernel_rfl
  have b : svE.bytes = 40 := by kernel_rfl
  have c : (n == 0) = false := by simp; omega
  have d : (n == 1) = false := by simp; omega
  simp [Lib.swapperK, a, b, c, d]

theorem keyCells_of {M : Nat → HM} {Hd : Nat → Prop} [Inhabited { i : Nat // Hd i }] {w : World} {blk : Nat} {d : Array { i : Nat // Hd i }} (h : HoldsK (enc5 M) 5 w blk 0 d) {t : Nat} (ht : t < d.size) : KeyCells w blk (t * 5) (M (d[t]!).1) := by
  have c0 := (h.cell (i := t) (c := 0) ht (by omega)).1
  have c1 := (h.cell (i := t) (c := 1) ht (by omega)).1
  have c2 := (h.cell (i := t) (c := 2) ht (by omega)).1
  have c3 := (h.cell (i := t) (c := 3) ht (by omega)).1
  have c4 := (h.cell (i := t) (c := 4) ht (by omega)).1
  simp only [Nat.zero_add, Nat.add_zero] at c0 c1 c2 c3 c4
  exact ⟨c0, c1, c2, c3, c4⟩

/-- what the closure reads lies where it lay, and not in the keys' own row -/
structure SortBase (M : Nat → HM) (Hd : Nat → Prop) (pb : Nat → Nat) (w : World) (blk c size Bj Bk jb mb : Nat) : Prop where
  kj : w.cell? ⟨Bj, 0, none⟩ = some (.pointer (some ⟨jb, 0, none⟩))
  km : w.cell? ⟨jb, 0, none⟩ = some (.map (some mb))
  kk : w.cell? ⟨Bk, 0, none⟩ = some (.slice (some ⟨blk, 0, none⟩) size c)
  own : ∃ n D, w.ownsMap Try.prog 78 RP mb n D ∧ MapIs M Hd pb D
  wf : ∀ i, Hd i → (M i).Wf
  began : ∀ i, Hd i → w.cell? ⟨pb i, 0, none⟩ = some (.int .u64 (i : Int))
  nj : Bj ≠ blk
  nm : jb ≠ blk
  nk : Bk ≠ blk
  nb : mb ≠ blk
  np : ∀ i, Hd i → pb i ≠ blk

theorem less_reads {M : Nat → HM} {Hd : Nat → Prop} [Inhabited { i : Nat // Hd i }] {pb : Nat → Nat} {w : World} {blk c Bj Bk jb mb : Nat} (d : Array { i : Nat // Hd i }) (hb : SortBase M Hd pb w blk c d.size Bj Bk jb mb) (hH : HoldsK (enc5 M (Hd := Hd)) 5 w blk 0 d) (hblk : blk < w.heap.size) :
    LessReadsK Try.prog 40 #[.pointer (some ⟨Bj, 0, none⟩), .pointer (some ⟨Bk, 0, none⟩)] (enc5 M (Hd := Hd)) 5 (lt5 (Hd := Hd)) blk 0 d.size w := by
  intro m os dk hs i j hi hj
  have g : w.grownBy (sortWorldK (enc5 M (Hd := Hd)) 5 w blk 0 m dk os) (some blk) := gb_sort (enc5 M (Hd := Hd)) 5 w m blk 0 dk os
  have e : sortWorldK (enc5 M (Hd := Hd)) 5 w blk 0 m dk os = putRowK (enc5 M (Hd := Hd)) 5 (grow (Sort.ahead w m) os) blk 0 dk := by
    unfold sortWorldK; rw [putRowK_grow _ _ (Sort.ahead w m) _ blk 0 _ hblk]
  have hHg : HoldsK (enc5 M (Hd := Hd)) 5 (grow (Sort.ahead w m) os) blk 0 d := holdsK_grow _ _ _ _ blk 0 d hblk (holdsK_ahead _ _ _ _ _ _ _ hH)
  have hHk : HoldsK (enc5 M (Hd := Hd)) 5 (sortWorldK (enc5 M (Hd := Hd)) 5 w blk 0 m dk os) blk 0 dk := by rw [e]; exact holdsK_putRowK _ _ _ blk 0 d dk hHg hs
  obtain ⟨n, D, ho, hm⟩ := hb.own
  have ho' : ∀ q, ((sortWorldK (enc5 M (Hd := Hd)) 5 w blk 0 m dk os).drewN q).ownsMap Try.prog 78 RP mb n D := fun q => ho.kept (gb_drewN g q) (by simp; exact hb.nb)
  exact less40 i j d.size c blk Bj Bk jb mb (pb (dk[i]!).1) (pb (dk[j]!).1) (M (dk[i]!).1) (M (dk[j]!).1) ((dk[i]!).1 : Nat) ((dk[j]!).1 : Nat) _ hi hj
    (g.cell hb.kj (by simp; exact hb.nj)) (g.cell hb.km (by simp; exact hb.nm)) (g.cell hb.kk (by simp; exact hb.nk)) (keyCells_of hHk (by omega)) (keyCells_of hHk (by omega))
    (fun q => look_held (ho' q) hm (dk[i]!).2 (hb.wf _ (dk[i]!).2)) (fun q => look_held (ho' q) hm (dk[j]!).2 (hb.wf _ (dk[j]!).2))
    (g.cell (hb.began _ (dk[i]!).2) (by simp; exact hb.np _ (dk[i]!).2)) (g.cell (hb.began _ (dk[j]!).2) (by simp; exact hb.np _ (dk[j]!).2))

theorem sort_many {M : Nat → HM} {Hd : Nat → Prop} [Inhabited { i : Nat // Hd i }] {pb : Nat → Nat} {w : World} {blk c Bj Bk jb mb : Nat} (d : Array { i : Nat // Hd i }) (h2 : 2 ≤ d.size) (hsz : d.size ≤ 4096) (hb : SortBase M Hd pb w blk c d.size Bj Bk jb mb) (hH : HoldsK (enc5 M (Hd := Hd)) 5 w blk 0 d) (hblk : blk < w.heap.size) :
    Calls Try.prog 39 #[.iface 86 (.slice (some ⟨blk, 0, none⟩) d.size c), .func (.func 40) #[] #[.pointer (some ⟨Bj, 0, none⟩), .pointer (some ⟨Bk, 0, none⟩)]] w fun e w' =>
      e = .returned (.tuple #[]) ∧ ∃ d', PermIn 0 d.size d d' ∧ SortedIn (lt5 (Hd := Hd)) 0 d.size d' ∧ HoldsK (enc5 M (Hd := Hd)) 5 w' blk 0 d' ∧ w.grownBy w' (some blk) := by
  have hS := Any.sort_Slice_cells_sorted sv6 86 78 svT svE (by kernel_rfl) (by kernel_rfl) (by kernel_rfl) (by kernel_rfl) 25 (fun _ => by kernel_rfl) (enc5 M (Hd := Hd)) 5 (fun _ => rfl) (by kernel_rfl) (fun _ => by kernel_rfl)
    (fun x v hv => by simp [enc5] at hv; rcases hv with rfl | rfl | rfl | rfl | rfl <;> rfl) (lt5 (Hd := Hd)) swo5 40 _
    (enters_of Try.func40 (by kernel_rfl) rfl) blk 0 c d h2 (by omega) 57 (by rw [svK _ h2]; kernel_rfl) false
    (fun args W => run_callFunc_extern Try.func57 (by kernel_rfl) (by kernel_rfl) (by kernel_rfl) (e := Extern.ReflectliteSwapper.swap false) (by kernel_rfl) args W) w (less_reads d hb hH hblk) hH hblk
  change Calls Try.prog 39 _ _ _ at hS
  refine hS.mono ?_
  rintro e w' ⟨rfl, d', n, os, hp, hso, rfl⟩
  refine ⟨rfl, d', hp, hso, ?_, gb_sort (enc5 M (Hd := Hd)) 5 w n blk 0 d' os⟩
  have hHg : HoldsK (enc5 M (Hd := Hd)) 5 (grow (Sort.ahead w n) os) blk 0 d := holdsK_grow _ _ _ _ blk 0 d hblk (holdsK_ahead _ _ _ _ _ _ _ hH)
  rw [← putRowK_grow _ _ (Sort.ahead w n) _ blk 0 _ hblk]
  exact holdsK_putRowK _ _ _ blk 0 d d' hHg hp.1

theorem sort_few (p : Option Addr) (n c : Nat) (h1 : n ≤ 1) (lb : Array Value) (w : World) :
    Calls Try.prog 39 #[.iface 86 (.slice p n c), .func (.func 40) #[] lb] w fun e w' => e = .returned (.tuple #[]) ∧ w.grownBy w' none := by
  have hS := Any.sort_Slice_tiny sv6 86 78 svT svE (by kernel_rfl) (by kernel_rfl) (by kernel_rfl) (by kernel_rfl) 25 (fun _ => by kernel_rfl) p n c h1 (if n = 0 then 49 else 50) (by
    obtain rfl | rfl : n = 0 ∨ n = 1 := by omega
    · kernel_rfl
    · kernel_rfl) (.func 40) #[] lb w
  change Calls Try.prog 39 _ _ _ at hS
  refine hS.mono ?_
  rintro e w' ⟨rfl, os, rfl⟩
  exact ⟨rfl, rfl, rfl, rfl, by simp [grow], fun i hi _ => by simp only [grow]; rw [Array.getElem?_append_left hi]⟩
end Go.Proofs.Qxb6613072a
