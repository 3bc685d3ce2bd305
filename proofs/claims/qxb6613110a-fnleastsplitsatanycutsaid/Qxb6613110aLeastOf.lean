/- leastOf: the law's own call of least. -/
import Derived.Test.Qxb6613110aLeast
namespace Go.Proofs.Qxb6613110a
open Go.RowKit Go.Maps Go.Sort Go.Shelf
set_option linter.unusedVariables false

theorem newReplica20 (a : Option Addr) (n c mb : Nat) (w : World) :
    Calls Try.prog 20 #[.string ⟨#[]⟩, .int .u64 0, .slice a n c, .slice none 0 0, .slice none 0 0, .map (some mb)] w fun e w' => e = .returned (.pointer (some ⟨w.heap.size, 0, none⟩)) ∧ w'.cell? ⟨w.heap.size, 4, none⟩ = some (.slice a n c) ∧ w'.cell? ⟨w.heap.size, 10, none⟩ = some (.map (some mb)) ∧ w.grownBy w' none := by
  go_enter Try.func20, Try.ntmps20
  go_wp2
  go_ret
  refine ⟨rfl, ?_, ?_, gb_alloc (gb_refl _ _) _⟩
  · rw [World.cell?_alloc_at _ _ _ _ (by simp)]; rfl
  · rw [World.cell?_alloc_at _ _ _ _ (by simp)]; rfl

theorem leastBounds33 (rb mb : Nat) (av : Option Addr) (nv cv : Nat) (V : Nat → VW) (a : Option Addr) (n cap : Nat) (S : Nat → ByteArray) (C : Nat → Int) (R : Nat → Int) (hn : n ≤ 1048576) (hnv : nv ≤ 1048576) (hA : Asc n S) (hF : ViewWf nv V)
    (hR : ∀ i, i < nv → Reads n S C (V i).id (R i)) (w : World) (hP : RepO w rb mb av nv cv V) (hS : VEo w a n S C) :
    Calls Try.prog 33 #[.pointer (some ⟨rb, 0, none⟩), .slice a n cap] w fun e w' => e = .returned (.tuple #[.int .u64 (leastTo V R nv).1, .string (leastTo V R nv).2]) ∧ w.grownBy w' none := by
  have HC := fun w hP hS => least39 rb mb av nv cv V a n cap S C R hn hnv hA hF hR w hP hS
  have HC' : Hid _ := HC
  have HP : Hid (RepO w rb mb av nv cv V) := hP
  have HS : Hid (VEo w a n S C) := hS
  clear HC hP hS hA hF hR
  go_enter Try.func33, Try.ntmps33
  go_wp2_with fail
  refine Calls.mono (HC'.out _ HP.out HS.out) ?_
  rintro e w1 ⟨rfl, hg⟩
  have HG : Hid (w.grownBy w1 none) := hg
  clear hg
  go_wp2
  go_ret2
  exact ⟨rfl, HG.out⟩

theorem leastOf13 (av : Option Addr) (nv cv : Nat) (V : Nat → VW) (a : Option Addr) (n cap : Nat) (S : Nat → ByteArray) (C : Nat → Int) (R : Nat → Int) (hn : n ≤ 1048576) (hnv : nv ≤ 1048576) (hA : Asc n S) (hO : ViewOK nv V) (hF : ViewWf nv V)
    (hR : ∀ i, i < nv → Reads n S C (V i).id (R i)) (w : World) (hV : ViewO w av nv V) (hS : VEo w a n S C) :
    Calls Try.prog 13 #[.slice av nv cv, .slice a n cap] w fun e w' => e = .returned (.tuple #[.int .u64 (leastTo V R nv).1, .string (leastTo V R nv).2]) ∧ w.grownBy w' none := by
  have HV : Hid (ViewO w av nv V) := hV
  have HS : Hid (VEo w a n S C) := hS
  have HA : Hid (Asc n S) := hA
  have HO : Hid (ViewOK nv V) := hO
  have HF : Hid (ViewWf nv V) := hF
  have HR : Hid (∀ i, i < nv → Reads n S C (V i).id (R i)) := hR
  clear hV hS hA hO hF hR
  go_enter Try.func13, Try.ntmps13
  go_wp2_with fail
  refine (buildView_any av nv cv V hnv _ HV.out).mono ?_
  rintro e w1 ⟨rfl, hp, hg⟩
  have P1 : Hid (PVo w1 (some ⟨w.heap.size, 0, none⟩) nv V) := hp
  have G1 : Hid (w.grownBy w1 none) := hg
  clear hp hg
  go_wp2_with fail
  refine (buildGone_any av nv cv V hnv HO.out HF.out _ (HV.out.new G1.out)).mono ?_
  rintro e w2 ⟨rfl, hm, hg⟩
  have M2 : Hid (MapO w2 w1.heap.size nv V) := hm
  have G2 : Hid (w1.grownBy w2 none) := hg
  clear hm hg
  go_wp2_with fail
  refine (newReplica20 (some ⟨w.heap.size, 0, none⟩) nv nv w1.heap.size _).mono ?_
  rintro e w3 ⟨rfl, h4, h10, hg⟩
  have P3 : Hid (RepO w3 w2.heap.size w1.heap.size (some ⟨w.heap.size, 0, none⟩) nv nv V) := ⟨h4, h10, P1.out.new (gb_trans G2.out hg), M2.out.new hg⟩
  have G3 : Hid (w.grownBy w3 none) := gb_trans G1.out (gb_trans G2.out hg)
  clear h4 h10 hg
  go_wp2_with fail
  refine (leastBounds33 w2.heap.size w1.heap.size (some ⟨w.heap.size, 0, none⟩) nv nv V a n cap S C R hn hnv HA.out HF.out HR.out _ P3.out (HS.out.new G3.out)).mono ?_
  rintro e w4 ⟨rfl, hg⟩
  have G4 : Hid (w.grownBy w4 none) := gb_trans G3.out hg
  clear hg
  go_wp2
  go_ret2
  exact ⟨rfl, G4.out⟩
end Go.Proofs.Qxb6613110a
