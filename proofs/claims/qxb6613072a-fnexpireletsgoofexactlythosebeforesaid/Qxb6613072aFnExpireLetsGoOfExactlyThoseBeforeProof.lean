/- The proof of the given statement 'Rows.FnExpireLetsGoOfExactlyThoseBeforeSaid'. -/
import Derived.Test.Qxb6613072aRows
import Derived.Test.Qxb6613072aLaw5
import Derived.Test.Qxb6613072aInc
import Derived.Test.Qxb6613072aNil
import Derived.Test.Qxb6613072aOpen
import Derived.ShutString
import Derived.ChangeOld
import Derived.Below
namespace Go.Proofs.Qxb6613072a.fnExpireLetsGoOfExactlyThoseBefore
open Go.ChangeShapes Go.WideShapes Go.ChangeAt Go.RowKit
set_option linter.unusedVariables false

theorem own : ownKnob Try.prog.godebug = none := by kernel_rfl

theorem incOk (M : Nat → HM) : IncOk M := by
  intro Hd pb jb mo y W tb hJ d0 d1 d2
  cases mo with
  | none => exact inc29_nil jb tb y W hJ.km (hJ.no rfl)
  | some mb => exact inc29 jb mb tb y W (hJ.has mb rfl) d0 d1 d2

set_option maxRecDepth 100000 in
theorem lifted (os : Os) (started : os.Started) (H : Type) (enc : TypeId × Value → H) :
    ReturnsInHanded {} Try.checked os 5 .any (Rows.fnExpireLetsGoOfExactlyThoseBeforeSpec.pre6 enc Try.prog Try.f5 Rows.fnExpireLetsGoOfExactlyThoseBeforeRow.domain false) (Rows.fnExpireLetsGoOfExactlyThoseBeforeSpec.post enc Try.prog Try.f5 false true false false) := by
  refine returnsInHanded_of_change (C := Try.checked) own started (by kernel_rfl) Try.func5
    (ChangeSpec.witness6 (enc := enc) (C := Try.checked) false ⟨#[], #[.slice none 0 0, .int .i64 0], []⟩ 8 (by kernel_rfl) (by kernel_rfl) (by kernel_rfl) (by kernel_rfl)) ?_
  intro W base args ds gs before hval0 hW hcnd _
  have hval : ∀ (j : Nat) t v, Try.f5.params[j]? = some t → args[j]? = some v → Value.okWide Try.prog W .any base t v := hval0
  have hW' := hW
  obtain ⟨p, q, hA0, hV, rfl, hfz, hnd⟩ := hW
  have hA : DataW.TrodAll enc Try.prog W 0 (fun _ => true) true Try.f5.params.toList args.toList ds p := hA0
  rw [Try.params5] at hA hval
  obtain ⟨v0, vs0, d0, ds0, p0, q0, hargs, rfl, rfl, h0, r0⟩ := trodAll_cons hA
  obtain ⟨v1, vs1, d1, ds1, p1, q1, rfl, rfl, rfl, h1, r1⟩ := trodAll_cons r0
  obtain ⟨rfl, rfl, rfl⟩ := trodAll_nil r1
  obtain rfl : args = #[v0, v1] := by cases args; simp_all
  obtain ⟨rfl, rfl⟩ := trodVars_none hV
  obtain ⟨a0, len0, cap0, rfl⟩ := okWide_slice Try.underlying27 (hval 0 27 v0 rfl rfl)
  have k0 := h0
  have k1 := h1
  have lt0 : ∀ x ∈ p0, x.block < W.heap.size := by obtain ⟨m, hm⟩ := k0; exact DataW.trod_lt m _ _ _ hm
  have lt1 : ∀ x ∈ p1, x.block < W.heap.size := by obtain ⟨m, hm⟩ := k1; exact DataW.trod_lt m _ _ _ hm
  obtain ⟨M, hn, hM, hS⟩ : ∃ M : Nat → HM, len0 ≤ maxLen ∧ (∀ i, i < len0 → (M i).Wf ∧ (M i).sn ≤ maxLen) ∧ MsgO W a0 len0 M := by
    obtain ⟨fuel, hf⟩ := h0
    exact open_Msgs (by simpa [Value.cells] using hf)
  obtain ⟨y, rfl, _, _, w1⟩ := open_int Try.underlying2 (hval 1 2 v1 rfl rfl) h1
  obtain ⟨y0, y1⟩ := wf_i64 w1
  clear hA0 hval0
  refine (law5 incOk a0 len0 cap0 M y hn hM y0 y1 W hS).mono fun e W' ⟨he, hg⟩ => ?_
  have bel := gb_below hg.out
  subst he
  exact ⟨_, rfl, _, _, _, [], _, [], hW', trodAll_mk1 (shut_bool Try.underlying4 _), (trodAll_cons_mk (Below.trod laidOut (by kernel_rfl) (of_decide_eq_true (by kernel_rfl)) k0 bel lt0) (trodAll_cons_mk (Below.trod laidOut (by kernel_rfl) (of_decide_eq_true (by kernel_rfl)) k1 bel lt1) trodAll_mk0)), rfl, bel.frame _, fun h => by cases h⟩

theorem over : Rows.fnExpireLetsGoOfExactlyThoseBeforeRow.holds Try.pinned (OpenSpec.ofChange Rows.fnExpireLetsGoOfExactlyThoseBeforeSpec) :=
  OpenClaim.holds_of_wide 5 Try.f5 rfl rfl rfl rfl rfl rfl rfl ⟨rfl, rfl, rfl, rfl, rfl⟩ rfl rfl rfl rfl rfl (by kernel_rfl) Try.func5 (by kernel_rfl)
    (of_decide_eq_true (by kernel_rfl)) (by unfold Func.isWrapper; first | (rw [if_pos (by decide +kernel)]; kernel_rfl) | (rw [if_neg (by decide +kernel)]; exact ⟨rfl, rfl⟩))
    (fun os started H enc _ => lifted os started H enc)

theorem proved : Rows.FnExpireLetsGoOfExactlyThoseBeforeSaid := over
#print axioms proved
end Go.Proofs.Qxb6613072a.fnExpireLetsGoOfExactlyThoseBefore
