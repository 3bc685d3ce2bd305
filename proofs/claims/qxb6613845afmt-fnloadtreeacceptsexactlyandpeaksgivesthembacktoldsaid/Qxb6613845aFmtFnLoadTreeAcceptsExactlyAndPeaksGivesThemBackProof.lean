/- The proof of the given statement 'Rows.FnLoadTreeAcceptsExactlyAndPeaksGivesThemBackToldSaid'. -/
import Derived.Test.Qxb6613845aFmtCards
import Derived.Test.Qxb6613845aFmtLaw
import Derived.ProofKit
import Derived.ChangeSlices
import Derived.ChangeSame
import Derived.ChangeMaps5
import Derived.JoinedOf
import Derived.Carry
import Derived.Stop.JoinedAt
import Derived.Stop.Texts
import Derived.Stop.JoinedTold
import Derived.SizedLaws
import Derived.SevenToldRow
namespace Go.Proofs.Qxb6613845aFmt.fnLoadTree
open Go.ChangeShapes Go.WideShapes Go.ChangeAt Go.RowKit Go.Kit
open Go.Extern.Stop Go.Stop Go.Extern

theorem law_long (z : Int) (a : Option Addr) (n cap : Nat) (hn : ¬ n ≤ 1048576) (hm : n ≤ maxLen) (w : World) :
    Calls Tryf.prog 3 #[.int .i64 z, .slice a n cap] w fun e w' => e = .returned (.bool true) ∧ w.grownBy w' none := by
  go_enter Tryf.func3, Tryf.ntmps3
  go_wp2_with (first | (go_at_call 5; refine (zzBytes_long z a n cap hn hm _).mono ?_; rintro e w' ⟨rfl, hw⟩; obtain rfl := hw.symm))
  go_ret
  exact ⟨rfl, gb_refl _ _⟩

theorem law (F : Interp) (z : Int) (h0 : -9223372036854775808 ≤ z) (h1 : z ≤ 9223372036854775807) (a : Option Addr) (n cap : Nat) (C : Nat → Int) (hm : n ≤ maxLen) (hnil : a = none → n = 0 ∧ cap = 0) (w : World) (hF : F.answers w.tape) (hS : Bys w a n C) :
    Calls Tryf.prog 3 #[.int .i64 z, .slice a n cap] w fun e w' => e = .returned (.bool true) ∧ w.grownBy w' none := by
  by_cases hn : n ≤ 1048576
  · by_cases hz : z < 0
    · cases a with
      | none =>
        obtain ⟨rfl, rfl⟩ := hnil rfl
        exact law_nil_neg F z hz w hF
      | some ad => exact law_some_neg F z hz ad n cap C hn w hF hS
    · obtain ⟨x, rfl⟩ := Int.eq_ofNat_of_zero_le (by omega : 0 ≤ z)
      have hx : x < 9223372036854775808 := by omega
      by_cases he : n = ones 64 x * 32
      · cases a with
        | none =>
          obtain ⟨rfl, rfl⟩ := hnil rfl
          exact law_nil_ok F x hx he w hF
        | some ad => exact law_some_ok F x hx ad n cap C hn he w hF hS
      · cases a with
        | none =>
          obtain ⟨rfl, rfl⟩ := hnil rfl
          exact law_nil_len F x hx he w hF
        | some ad => exact law_some_len F x hx ad n cap C hn he w hF hS
  · exact law_long z a n cap hn hm w

theorem own : ownKnob Tryf.prog.godebug = none := by kernel_rfl
theorem laidOut : laidOutB Tryf.pinned.checked.prog = true := by kernel_rfl
theorem cells5 : Tryf.prog.cellsOf 5 = 1 := by kernel_rfl
theorem stops : Tryf.pinned.checked.prog.stops = ["fmt.errorf"] := by kernel_rfl
theorem stopKnobs : Tryf.pinned.checked.prog.stopKnobs = [] := by kernel_rfl
theorem quiet (os : Os) : Stop.quiet Tryf.pinned.checked.prog os := by
  intro k hk
  rw [stopKnobs] at hk
  cases hk

theorem open_bytes {H : Type} {enc : TypeId × Value → H} {W : World} {fuel : Nat} {a : Option Addr} {n cap : Nat} {x : DataW H × List MemPlace}
    (h : DataW.trod enc Tryf.prog W 0 (fun _ => true) true fuel 22 [.slice a n cap] = some x) :
    ∃ (C : Nat → Int), n ≤ maxLen ∧ (a = none → n = 0 ∧ cap = 0) ∧ Bys W a n C := by
  rcases open_ints Tryf.underlying22 Tryf.underlying5 cells5 h with ⟨hcs, _⟩ | ⟨ad, len', cap', zs, hcs, _, hl, hm, hz, _, hcell, _⟩
  · simp at hcs
    obtain ⟨rfl, rfl, rfl⟩ := hcs
    exact ⟨fun _ => 0, Nat.zero_le _, fun _ => ⟨rfl, rfl⟩, fun i hi => absurd hi (by omega)⟩
  · simp at hcs
    obtain ⟨rfl, rfl, rfl⟩ := hcs
    simp only [if_true] at hz
    exact ⟨fun i => zs.getD i 0, by omega, (fun h => by cases h), fun i hi => ⟨_, rfl, hcell i (by omega)⟩⟩

set_option maxRecDepth 100000 in
theorem lifted (os : Os) (started : os.Started) (H : Type) (enc : TypeId × Value → H) :
    ReturnsInTold none {} Tryf.checked os 3 .any Input.okWide ((OpenSpec.ofChange Rows.fnLoadTreeAcceptsExactlyAndPeaksGivesThemBackSpec).preRow enc Tryf.prog Tryf.f3 [] false []) (fun F => ((OpenSpec.ofChange Rows.fnLoadTreeAcceptsExactlyAndPeaksGivesThemBackSpec).at F).post enc Tryf.prog Tryf.f3 false true false false) (aloneAtReturn Tryf.prog) nothingAlways := by
  refine returnsInTold_of_row (C := Tryf.checked) (s := OpenSpec.ofChange Rows.fnLoadTreeAcceptsExactlyAndPeaksGivesThemBackSpec) (by kernel_rfl) own started (by kernel_rfl) Tryf.func3
    (OpenSpec.witness_stopped (enc := enc) (C := Tryf.checked) false ⟨#[], #[.int .i64 0, .slice none 0 0], []⟩ 8 (by kernel_rfl) (by kernel_rfl) (by kernel_rfl) (by kernel_rfl)) ?_
  intro F W base args ds gs before _ hF hval0 hW _ _ _ _ _
  have hval : ∀ (j : Nat) t v, Tryf.f3.params[j]? = some t → args[j]? = some v → Value.okWide Tryf.prog W .any base t v := hval0
  have hW' := hW
  obtain ⟨p, q, hA0, hV, rfl, _, _⟩ := hW
  have hA : DataW.TrodAll enc Tryf.prog W 0 (fun _ => true) true Tryf.f3.params.toList args.toList ds p := hA0
  rw [Tryf.params3] at hA hval
  obtain ⟨v0, v1, d0, d1, p0, p1, rfl, rfl, rfl, h0, h1⟩ := trodAll_two hA
  obtain ⟨rfl, rfl⟩ := trodVars_none hV
  obtain ⟨z, rfl, rfl, rfl, wz⟩ := open_int Tryf.underlying2 (hval 0 2 v0 rfl rfl) h0
  obtain ⟨a1, len, cap, rfl⟩ := okWide_slice Tryf.underlying22 (hval 1 22 v1 rfl rfl)
  have k1 := h1
  have lt1 : ∀ x ∈ p1, x.block < W.heap.size := by obtain ⟨m, hm⟩ := k1; exact DataW.trod_lt m _ _ _ hm
  obtain ⟨C, hm, hnil, hB⟩ : ∃ (C : Nat → Int), len ≤ maxLen ∧ (a1 = none → len = 0 ∧ cap = 0) ∧ Bys W a1 len C := by
    obtain ⟨fuel, hf⟩ := h1
    exact open_bytes (by simpa [Value.cells] using hf)
  clear hA0 hval0
  have hzb : -9223372036854775808 ≤ z ∧ z ≤ 9223372036854775807 := by
    have := wz
    simp [Lit.wf, IntKind.min, IntKind.max, IntKind.signed, IntKind.bits] at this
    omega
  refine (law F.told z hzb.1 hzb.2 a1 len cap C hm hnil W hF hB).mono fun e W' ⟨he, hg⟩ => ?_
  subst he
  have bel := gb_below hg
  exact ⟨_, rfl, _, _, _, [], _, [], hW', trodAll_mk1 (shut_bool Tryf.underlying4 _), trodAll_mk2 (shut_int Tryf.underlying2 wz) (Below.trod laidOut (by kernel_rfl) (of_decide_eq_true (by kernel_rfl)) k1 bel lt1), rfl, bel.frame _, fun h => by cases h⟩

theorem proved : Rows.FnLoadTreeAcceptsExactlyAndPeaksGivesThemBackToldSaid :=
  Claim7.holds_of_told_any 3 Tryf.f3 "fmt.errorf" [] [] _ _ _ (by kernel_rfl) rfl rfl rfl laidOut (by kernel_rfl) rfl ⟨rfl, rfl, rfl, rfl, rfl, rfl, rfl⟩ rfl rfl (by kernel_rfl) (by kernel_rfl) Tryf.func3 (by kernel_rfl)
    (of_decide_eq_true (by kernel_rfl)) (of_decide_eq_true (by kernel_rfl)) stops.symm rfl stopKnobs.symm (by kernel_rfl)
    (by kernel_rfl) (by kernel_rfl) (by kernel_rfl) (by kernel_rfl) (by kernel_rfl) (by kernel_rfl) (by kernel_rfl) (by kernel_rfl) (by kernel_rfl) rfl (by kernel_rfl) rfl rfl
    rfl rfl
    rfl (by kernel_rfl) (by kernel_rfl) (by kernel_rfl) (by decide) (by kernel_rfl)
    (OpenClaim.moreEntering_of (by kernel_rfl) (by kernel_rfl) (by kernel_rfl) (by kernel_rfl) (by kernel_rfl) (by kernel_rfl) (by kernel_rfl) (by kernel_rfl) (by kernel_rfl) (by kernel_rfl))
    ⟨_, WideRow.started_initial, quiet _⟩
    (fun os started _ H enc _ => lifted os started H enc)

#print axioms proved
end Go.Proofs.Qxb6613845aFmt.fnLoadTree
