/- buildGone: a map from id to the clock at which a member has gone for good. -/
import Derived.Test.Qxb6613110aBuildView
import Derived.Maps.Own
import Derived.Maps.Views
namespace Go.Proofs.Qxb6613110a
open Go.RowKit Go.Maps
set_option linter.unusedVariables false

/-- what the map D answers: of the first k members their clock, of the others 0 -/
def GoneIs (n k : Nat) (V : Nat → VW) (D : DataW Unit) : Prop :=
  IsMap D ∧ (∀ i, i < k → D.atKey (.string (V i).id.data.toList) (.lit (.int .u64 0)) = .lit (.int .u64 (V i).gone)) ∧ (∀ i, k ≤ i → i < n → D.atKey (.string (V i).id.data.toList) (.lit (.int .u64 0)) = .lit (.int .u64 0))

theorem id_lit_ne {n : Nat} {V : Nat → VW} (h : ViewOK n V) {i k : Nat} (hi : i < n) (hk : k < n) (e : i ≠ k) : Lit.string (V i).id.data.toList ≠ Lit.string (V k).id.data.toList := by
  intro h2
  injection h2 with h2
  exact e (h.1.inj hi hk (ByteArray.ext (Array.ext' h2)))

theorem gone_skip {n k : Nat} {V : Nat → VW} {D : DataW Unit} (hk : k < n) (h0 : (V k).gone = 0) (h : GoneIs n k V D) : GoneIs n (k + 1) V D := by
  refine ⟨h.1, fun i hi => ?_, fun i hi hn => h.2.2 i (by omega) hn⟩
  by_cases e : i = k
  · rw [e, h0]; exact h.2.2 k (Nat.le_refl _) hk
  · exact h.2.1 i (by omega)

theorem gone_put {n k : Nat} {V : Nat → VW} {D : DataW Unit} (hv : ViewOK n V) (hk : k < n) (h : GoneIs n k V D) : GoneIs n (k + 1) V (D.put (.string (V k).id.data.toList) (.lit (.int .u64 (V k).gone))) := by
  refine ⟨?_, fun i hi => ?_, fun i hi hn => ?_⟩
  · obtain ⟨es, rfl⟩ := h.1
    exact ⟨_, rfl⟩
  · by_cases e : i = k
    · rw [e]; exact atKey_put_same h.1 (show WideAt.IsKeyLit (.string _) from True.intro) _ _
    · rw [atKey_put_other (id_lit_ne hv (by omega) hk e)]; exact h.2.1 i (by omega)
  · rw [atKey_put_other (id_lit_ne hv hn hk (by omega))]; exact h.2.2 i (by omega) hn

theorem keyed30 : Keyed Try.prog 30 := string_keyed Try.underlying30

/-- sizes and kinds that the reading of the view gives -/
def ViewWf (n : Nat) (V : Nat → VW) : Prop := ∀ i, i < n → (V i).id.size ≤ maxLen ∧ (Lit.int .u64 (V i).gone).wf = true

set_option maxHeartbeats 1000000 in
set_option maxRecDepth 100000 in
theorem buildGone_any (a : Option Addr) (n cap : Nat) (V : Nat → VW) (hn : n ≤ 1048576) (hO : ViewOK n V) (hF : ViewWf n V) (w : World) (hV : ViewO w a n V) :
    Calls Try.prog 22 #[.slice a n cap] w fun e w' => e = .returned (.map (some w.heap.size)) ∧ (∃ D : DataW Unit, w'.ownsMap Try.prog 30 (plainElem Try.prog 29) w.heap.size n D ∧ GoneIs n n V D) ∧ w.grownBy w' none := by
  have HV : Hid (ViewO w a n V) := hV
  have HO : Hid (ViewOK n V) := hO
  have HF : Hid (ViewWf n V) := hF
  clear hV hO hF
  have hmm := @run_makeMap Try.prog
  go_enter Try.func22, Try.ntmps22
  go_wp2
  go_loopw [4] (fun i wr => ∃ k : Nat, k ≤ n ∧ i = .int .i64 k ∧ Hid (∃ D : DataW Unit, wr.ownsMap Try.prog 30 (plainElem Try.prog 29) w.heap.size k D ∧ GoneIs n k V D ∧ w.grownBy wr none)) (fun i _ => n - (intOf i).toNat)
  case atStart => exact ⟨0, Nat.zero_le _, rfl, _, World.ownsMap_made _ _ _ _, ⟨isMap_empty, fun i hi => absurd hi (by omega), fun i _ _ => rfl⟩, gb_alloc (gb_refl _ _) _⟩
  case round =>
    obtain ⟨k, hk, rfl, H⟩ := hrel
    by_cases hlt : k < n
    · obtain ⟨D, hown, hgo, hg⟩ := H.out
      obtain ⟨ad, rfl, g0, _, _, _, _, g5⟩ := HV.out k hlt
      have h0 := hg.cell g0 (by simp)
      have h5 := hg.cell g5 (by simp)
      have hi' : (k : Int) < (n : Int) := by omega
      clear g0 g5
      have GO : Hid (GoneIs n k V D) := hgo
      have HG : Hid (w.grownBy wr none) := hg
      have HW : Hid (wr.ownsMap Try.prog 30 (plainElem Try.prog 29) w.heap.size k D) := hown
      clear hown hgo hg H
      by_cases hz : (V k).gone = 0
      · have hzb : ((V k).gone != 0) = false := by simp [hz]
        have HZ : Hid ((V k).gone = 0) := hz
        clear hz
        go_wp2
        go_roundw
        case rel => exact ⟨k + 1, by omega, by go_num, D, HW.out.mono (by omega), gone_skip hlt HZ.out GO.out, HG.out⟩
        case measure => simp [intOf]; omega
      · have hzb : ((V k).gone != 0) = true := by simp [hz]
        obtain ⟨w2, hrun, hown2, hg2⟩ := World.ownsMap.update HW.out.drew keyed30 Try.underlying47 (by unfold maxLen; omega) (key := .string (V k).id) (val := .int .u64 (V k).gone) (kl := .string (V k).id.data.toList) (d := .lit (.int .u64 (V k).gone)) (ps := []) (WideMaps.keyOf_string_mk Try.underlying30 (HF.out k hlt).1) (plainElem_int Try.underlying29 (HF.out k hlt).2)
        have HW2 : Hid (w2.ownsMap Try.prog 30 (plainElem Try.prog 29) w.heap.size (k + 1) (D.put (.string (V k).id.data.toList) (.lit (.int .u64 (V k).gone)))) := hown2
        have HG2 : Hid (w.grownBy w2 none) := gb_later (gb_drew HG.out) hg2 (Nat.le_refl _)
        clear hown2 hg2 hz
        go_wp2_with fail
        go_region
        go_wp2
        go_roundw
        case rel => exact ⟨k + 1, by omega, by go_num, _, HW2.out, gone_put HO.out hlt GO.out, HG2.out⟩
        case measure => simp [intOf]; omega
    · obtain rfl : k = n := by omega
      go_wp2
      go_ret
      obtain ⟨D, hown, hgo, hg⟩ := H.out
      exact ⟨rfl, ⟨D, hown, hgo⟩, hg⟩
end Go.Proofs.Qxb6613110a
