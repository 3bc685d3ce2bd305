/- sort.Search, for a predicate that may draw and lay blocks of its own. -/
import Derived.Test.Qxb6613110aBuild
import Derived.Shelf.SlSortCmp.QuietGrown
import Derived.Shelf.RegionOpenPlain
import Derived.Deep.LoopGhost
namespace Go.Proofs.Qxb6613110a
open Go.RowKit Go.Sort Go.Shelf
set_option linter.unusedVariables false

theorem gb_grow (w : World) (n : Nat) (os : Array Obj) (row : Option Nat) : w.grownBy (grow (w.drewN n) os) row :=
  ⟨rfl, rfl, rfl, by simp [grow], fun k hk _ => by show ((w.drewN n).heap ++ os)[k]? = _; rw [Array.getElem?_append_left (by exact hk)]; rfl⟩

set_option maxHeartbeats 1000000 in
set_option maxRecDepth 100000 in
theorem sortSearch (g : Nat) (cb : Array Value) (n : Nat) (p : Nat → Bool) (w : World) (eg : ∀ args w, (callFunc g args).run Try.prog w = .ok (.enter g args) w) (hsz : n < 4611686018427387904)
    (hf : ∀ (W : World) (i : Nat), w.grownBy W none → i < n → Calls Try.prog g (#[.int .i64 i] ++ cb) W fun e w' => e = .returned (.bool (p i)) ∧ W.grownBy w' none)
    (hmono : ∀ a b, a ≤ b → b < n → p a = true → p b = true) :
    Calls Try.prog 47 #[.int .i64 n, .func (.func g) #[] cb] w fun e w' => ∃ r : Nat, e = .returned (.int .i64 r) ∧ r ≤ n ∧ (∀ t, t < r → p t = false) ∧ (∀ t, r ≤ t → t < n → p t = true) ∧ w.grownBy w' none := by
  have HF : Aside _ := hf
  have M : Aside _ := hmono
  clear hf hmono
  go_enter Try.func47, Try.ntmps47
  go_wp2
  go_loopg [5, 6] n (fun kx s5 s6 wr => ∃ (lo hi : Nat), s5 = .int .i64 lo ∧ s6 = .int .i64 hi ∧ lo ≤ hi ∧ hi ≤ n ∧ hi - lo ≤ kx ∧ Aside (w.grownBy wr none) ∧
    Aside ((∀ t, t < lo → p t = false) ∧ (∀ t, hi ≤ t → t < n → p t = true)))
  case atStart => exact ⟨0, n, rfl, rfl, Nat.zero_le _, Nat.le_refl _, by omega, gb_refl _ _, (⟨fun t ht => absurd ht (Nat.not_lt_zero _), fun t h1 h2 => by omega⟩ : (∀ t, t < 0 → p t = false) ∧ (∀ t, n ≤ t → t < n → p t = true))⟩
  case round =>
    obtain ⟨lo, hi, rfl, rfl, hlh, hin, hg, G, I⟩ := hrel
    by_cases hlt : lo < hi
    · have hc := HF.out wr ((lo + hi) / 2) G.out (by omega)
      rw [show (((lo + hi) / 2 : Nat) : Int) = ((lo : Int) + (hi : Int)) / 2 by omega] at hc
      cases hp : p ((lo + hi) / 2) <;> rw [hp] at hc
      · have HP : Aside (p ((lo + hi) / 2) = false) := hp
        clear hp
        go_wp2_with (go_at_fn g; refine hc.mono ?_; rintro e w' ⟨rfl, hw'⟩)
        go_roundg (hi - ((lo + hi) / 2 + 1))
        case measure => omega
        case rel =>
          have I2 : Aside ((∀ t, t < (lo + hi) / 2 + 1 → p t = false) ∧ (∀ t, hi ≤ t → t < n → p t = true)) := ⟨fun t ht => (by
            cases h : p t with
            | false => rfl
            | true => have := M.out t ((lo + hi) / 2) (by omega) (by omega) h; rw [HP.out] at this; cases this), I.out.2⟩
          exact ⟨(lo + hi) / 2 + 1, hi, by rw [show ((lo : Int) + (hi : Int)) / 2 + 1 = (((lo + hi) / 2 + 1 : Nat) : Int) by omega], rfl, by omega, hin, Nat.le_refl _, gb_trans G.out hw', I2⟩
      · have HP : Aside (p ((lo + hi) / 2) = true) := hp
        clear hp
        go_wp2_with (go_at_fn g; refine hc.mono ?_; rintro e w' ⟨rfl, hw'⟩)
        go_roundg ((lo + hi) / 2 - lo)
        case measure => omega
        case rel =>
          have I2 : Aside ((∀ t, t < lo → p t = false) ∧ (∀ t, (lo + hi) / 2 ≤ t → t < n → p t = true)) := ⟨I.out.1, fun t ht htn => M.out ((lo + hi) / 2) t ht htn HP.out⟩
          exact ⟨lo, (lo + hi) / 2, rfl, by rw [show ((lo : Int) + (hi : Int)) / 2 = (((lo + hi) / 2 : Nat) : Int) by omega], by omega, by omega, Nat.le_refl _, gb_trans G.out hw', I2⟩
    · obtain rfl : hi = lo := by omega
      go_wp2
      go_ret
      exact ⟨hi, rfl, hin, I.out.1, I.out.2, G.out⟩
end Go.Proofs.Qxb6613110a
