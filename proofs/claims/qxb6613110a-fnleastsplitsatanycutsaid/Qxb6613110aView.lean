/- A view's own functions: viewOK, counted, entryOf; the guards of the two laws on least. -/
import Derived.Test.Qxb6613110aBase
namespace Go.Proofs.Qxb6613110a
open Go.RowKit
set_option linter.unusedVariables false

/-- ids in order, none empty -/
def ViewOK (n : Nat) (V : Nat → VW) : Prop := Asc n (fun i => (V i).id) ∧ ∀ i, i < n → (V i).id.toList.isEmpty = false

def countedB (v : VW) : Bool := (v.st.toList == [109, 101, 109, 98, 101, 114]) || ((v.st.toList == [102, 97, 105, 108, 101, 100]) && (v.gone == 0))

set_option maxHeartbeats 1000000 in
theorem viewOK_any (a : Option Addr) (n cap : Nat) (V : Nat → VW) (hn : n ≤ 1048576) (w : World) (hV : ViewO w a n V) :
    Calls Try.prog 11 #[.slice a n cap] w fun e w' => ∃ b, e = .returned (.bool b) ∧ (b = true → ViewOK n V) ∧ ∃ q, w' = w.drewN q := by
  have HV : Hid (ViewO w a n V) := hV
  clear hV
  go_enter Try.func11, Try.ntmps11
  go_wp2
  go_loopw [3] (fun i wr => ∃ (k q : Nat), k ≤ n ∧ i = .int .i64 k ∧ wr = w.drewN q ∧ Hid ((∀ i, i < k → (V i).id.toList.isEmpty = false) ∧ (∀ i, i + 1 < k → sLess (V i).id (V (i + 1)).id = true))) (fun i _ => n - (intOf i).toNat)
  case atStart => exact ⟨0, 0, Nat.zero_le _, rfl, rfl, fun i hi => absurd hi (by omega), fun i hi => absurd hi (by omega)⟩
  case round =>
    obtain ⟨k, q, hk, rfl, rfl, H⟩ := hrel
    by_cases hlt : k < n
    · obtain ⟨ad, rfl, h1, _⟩ := HV.out k hlt
      cases he : (V k).id.toList.isEmpty
      · have HE : Hid ((V k).id.toList.isEmpty = false) := he
        have hi1 : (k : Int) < (n : Int) := by omega
        by_cases h0 : 0 < k
        · obtain ⟨ad', e', h2, _⟩ := HV.out (k - 1) (by omega)
          obtain rfl := Option.some.inj e'
          clear e'
          have hi0 : (0 : Int) < (k : Int) := by omega
          have hi2 : (k : Int) - 1 < (n : Int) := by omega
          have d0 : decide ((0 : Int) < (k : Int)) = true := by simp; omega
          cases hb : Op.bytesLess (V (k - 1)).id.toList (V k).id.toList
          · go_wp2_with fail
            go_quiet (fail)
            go_wp2
            go_ret
            exact ⟨false, rfl, (fun h => by cases h), q + nq, by first | rfl | rw [World.drewN_drewN]⟩
          · have HB : Hid (Op.bytesLess (V (k - 1)).id.toList (V k).id.toList = true) := hb
            go_wp2_with fail
            go_quiet (fail)
            go_wp2
            go_roundw
            case rel =>
              refine ⟨k + 1, q + nq, by omega, by go_num, by first | rfl | rw [World.drewN_drewN], fun i hi => ?_, fun i hi => ?_⟩
              · by_cases e : i = k
                · subst e; exact HE.out
                · exact H.out.1 i (by omega)
              · by_cases e : i + 1 = k
                · subst e; exact HB.out
                · exact H.out.2 i (by omega)
            case measure => simp [intOf]; omega
        · have d0 : decide ((0 : Int) < (k : Int)) = false := by simp; omega
          go_wp2_with fail
          go_quiet (fail)
          go_wp2
          go_roundw
          case rel =>
            refine ⟨k + 1, q + nq, by omega, by go_num, by first | rfl | rw [World.drewN_drewN], fun i hi => ?_, fun i hi => absurd hi (by omega)⟩
            by_cases e : i = k
            · subst e; exact HE.out
            · omega
          case measure => simp [intOf]; omega
      · go_wp2
        go_ret
        exact ⟨false, rfl, (fun h => by cases h), q, rfl⟩
    · go_wp2
      go_ret
      exact ⟨true, rfl, fun _ => ⟨fun i hi => H.out.2 i (by omega), fun i hi => H.out.1 i (by omega)⟩, q, rfl⟩

theorem counted_any (v : VW) (w : World) :
    Calls Try.prog 15 #[.agg #[.string v.id, .string v.st, .int .u64 v.inc, .bool v.sus, .int .u64 v.sd, .int .u64 v.gone]] w fun e w' => e = .returned (.bool (countedB v)) ∧ w.grownBy w' none := by
  cases h1 : (v.st.toList == [109, 101, 109, 98, 101, 114])
  · cases h2 : (v.st.toList == [102, 97, 105, 108, 101, 100])
    · go_enter Try.func15, Try.ntmps15
      go_wp2
      go_ret
      exact ⟨by simp [countedB, h1, h2], gb_alloc (gb_refl _ _) _⟩
    · go_enter Try.func15, Try.ntmps15
      go_wp2
      go_ret
      exact ⟨by simp [countedB, h1, h2], gb_alloc (gb_refl _ _) _⟩
  · go_enter Try.func15, Try.ntmps15
    go_wp2
    go_ret
    exact ⟨by simp [countedB, h1], gb_alloc (gb_refl _ _) _⟩

/-- a member's entry of the replica's own view -/
abbrev EV (v : VW) : Array Value := #[.string v.id, .string ⟨#[]⟩, .string v.st, .int .u64 0, .int .u64 0, .int .u64 0, .string ⟨#[]⟩, .int .u64 0, .int .u64 v.inc, .bool v.sus, .int .u64 v.sd, .int .u64 0, .slice none 0 0, .bool false]

theorem entryOf_any (v : VW) (w : World) :
    Calls Try.prog 34 #[.agg #[.string v.id, .string v.st, .int .u64 v.inc, .bool v.sus, .int .u64 v.sd, .int .u64 v.gone]] w fun e w' => e = .returned (.agg (EV v)) ∧ w.grownBy w' none := by
  go_enter Try.func34, Try.ntmps34
  go_wp2
  exact bodyPost_ret (v := .agg (EV v)) (by simp [results, Try.results34, go_sem]) rfl ⟨rfl, gb_alloc (gb_alloc (gb_refl _ _) _) _⟩
end Go.Proofs.Qxb6613110a
