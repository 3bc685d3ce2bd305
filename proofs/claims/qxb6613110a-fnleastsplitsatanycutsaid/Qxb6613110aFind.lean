/- member(), the two predicates, search. -/
import Derived.Test.Qxb6613110aSearch
import Derived.Lib.QuietBelow
import Derived.Deep.DeepCutAuto
namespace Go.Proofs.Qxb6613110a
open Go.RowKit Go.Sort Go.Shelf
set_option linter.unusedVariables false

theorem member_any (s : ByteArray) (c : Int) (w : World) :
    Calls Try.prog 69 #[.agg #[.string s, .int .u64 c]] w fun e w' => e = .returned (.string s) ∧ w' = w.alloc (.cells #[.string s, .int .u64 c] 66) := by
  go_enter Try.func69, Try.ntmps69
  go_wp2
  go_ret
  exact ⟨rfl, rfl⟩

theorem gb_regrown (w : World) (d : Nat) (os : Array Obj) (row : Option Nat) : w.grownBy (grow (redrawn w d) os) row :=
  ⟨rfl, rfl, rfl, (below_regrown w d os).size, fun k hk _ => (below_regrown w d os).block k hk⟩

/-- a contract that ends in 'grownBy' at no old block, met in a region that is walked once -/
theorem Calls.regrown {f : FuncId} {args : Array Value} {w : World} {d : Nat} {os : Array Obj} {v : Value}
    (h : Calls Try.prog f args (grow (redrawn w d) os) fun e w' => e = .returned v ∧ (grow (redrawn w d) os).grownBy w' none) : Calls Try.prog f args (grow (redrawn w d) os) fun e w'' => e = .returned v ∧ ∃ p : Regrown, w'' = grow (redrawn w p.d) p.os :=
  Calls.regrown_of (Calls.mono h fun e w' ⟨he, hg⟩ => ⟨he, gb_below hg⟩)

theorem member_regrown (s : ByteArray) (c : Int) (w : World) (d : Nat) (os : Array Obj) :
    Calls Try.prog 69 #[.agg #[.string s, .int .u64 c]] (grow (redrawn w d) os) fun e w' => e = .returned (.string s) ∧ ∃ p : Regrown, w' = grow (redrawn w p.d) p.os :=
  Calls.regrown ((member_any s c _).mono fun e w' ⟨he, hw⟩ => ⟨he, by rw [hw]; exact gb_alloc (gb_refl _ _) _⟩)

/-- the method's name, as the text of function 49 has it -/
def invName : Option Code → String
  | some (.seq _ (.seq (.region _ ops _) _)) => match ops.toList with
    | _ :: _ :: _ :: _ :: _ :: o :: _ => (match o.op with | .call c => (match c.callee with | .invoke _ nm => nm | _ => default) | _ => default)
    | _ => default
  | _ => default
theorem method_key (s : ByteArray) (c : Int) (w : World) : (method 229 66 (.agg #[.string s, .int .u64 c]) (invName Try.f49.body)).run Try.prog w = .ok (69, .agg #[.string s, .int .u64 c]) w := by kernel_rfl

set_option maxHeartbeats 400000 in
set_option maxRecDepth 100000 in
theorem clos49 (bs bm n cap i : Nat) (ad : Addr) (s m : ByteArray) (c : Int) (hi : i < n) (w : World)
    (h1 : w.cell? ⟨bs, 0, none⟩ = some (.slice (some ad) n cap)) (h2 : w.cell? ⟨bm, 0, none⟩ = some (.string m))
    (h3 : w.cell? (ad.add (i * 2)) = some (.string s)) (h4 : w.cell? ⟨(ad.add (i * 2)).block, (ad.add (i * 2)).off + 1, none⟩ = some (.int .u64 c)) :
    Calls Try.prog 49 #[.int .i64 i, .pointer (some ⟨bs, 0, none⟩), .pointer (some ⟨bm, 0, none⟩)] w fun e w' => e = .returned (.bool (!sLess s m)) ∧ w.grownBy w' none := by
  have hi' : (i : Int) < (n : Int) := by omega
  have g1 := cell_regrown h1
  have g2 := cell_regrown h2
  have g3 := cell_regrown h3
  have g4 := cell_regrown h4
  clear h1 h2 h3 h4
  have hm := method_key s c
  simp only [invName, Try.f49] at hm
  go_enter Try.func49, Try.ntmps49
  go_wp2_with fail
  refine wp_region_quiet_below (by kernel_rfl) (by kernel_rfl) ?_
  repeat (first | go_big_quiet_step ((go_at_call 69; exact member_regrown _ _ _ _ _)) | quiet_step ((go_at_call 69; exact member_regrown _ _ _ _ _)))
  refine wpQuiet_nil ?_
  intro _ hw'
  obtain ⟨⟨dq, osq⟩, hw''⟩ := hw'
  subst hw''
  go_wp2
  go_ret
  exact ⟨rfl, gb_regrown _ _ _ _⟩

set_option maxHeartbeats 400000 in
set_option maxRecDepth 100000 in
theorem clos48 (bw bl bm pb po n cap lo i : Nat) (ad : Addr) (s m : ByteArray) (c : Int) (hi : lo + i < n) (hn : n ≤ 1048576) (w : World)
    (h0 : w.cell? ⟨bw, 0, none⟩ = some (.pointer (some ⟨pb, po, none⟩))) (h1 : w.cell? ⟨pb, po, none⟩ = some (.slice (some ad) n cap)) (hl : w.cell? ⟨bl, 0, none⟩ = some (.int .i64 lo)) (h2 : w.cell? ⟨bm, 0, none⟩ = some (.string m))
    (h3 : w.cell? (ad.add ((lo + i) * 2)) = some (.string s)) (h4 : w.cell? ⟨(ad.add ((lo + i) * 2)).block, (ad.add ((lo + i) * 2)).off + 1, none⟩ = some (.int .u64 c)) :
    Calls Try.prog 48 #[.int .i64 i, .pointer (some ⟨bw, 0, none⟩), .pointer (some ⟨bl, 0, none⟩), .pointer (some ⟨bm, 0, none⟩)] w fun e w' => e = .returned (.bool (!sLess s m)) ∧ w.grownBy w' none := by
  have hi' : (lo : Int) + (i : Int) < (n : Int) := by omega
  have g0 := cell_regrown h0
  have g1 := cell_regrown h1
  have gl := cell_regrown hl
  have g2 := cell_regrown h2
  have g3 := cell_regrown h3
  have g4 := cell_regrown h4
  clear h0 h1 hl h2 h3 h4
  have hm := method_key s c
  simp only [invName, Try.f49] at hm
  go_enter Try.func48, Try.ntmps48
  go_wp2_with fail
  refine wp_region_quiet_below (by kernel_rfl) (by kernel_rfl) ?_
  repeat (first | go_big_quiet_step ((go_at_call 69; exact member_regrown _ _ _ _ _)) | quiet_step ((go_at_call 69; exact member_regrown _ _ _ _ _)))
  refine wpQuiet_nil ?_
  intro _ hw'
  obtain ⟨⟨dq, osq⟩, hw''⟩ := hw'
  subst hw''
  go_wp2
  go_ret
  exact ⟨rfl, gb_regrown _ _ _ _⟩

/-- what a search for m in n ascending names answers: a place, and whether m is there -/
def Found (n : Nat) (S : Nat → ByteArray) (m : ByteArray) (i : Nat) (b : Bool) : Prop :=
  i ≤ n ∧ (b = true → i < n ∧ S i = m) ∧ (b = false → ∀ j, j < n → S j ≠ m)

theorem found_of {n r : Nat} {S : Nat → ByteArray} {m : ByteArray} (hA : Asc n S) (hr : r ≤ n) (h1 : ∀ t, t < r → sLess (S t) m = true) (h2 : ∀ t, r ≤ t → t < n → sLess (S t) m = false) (h3 : r < n → S r ≠ m) : ∀ j, j < n → S j ≠ m := by
  intro j hj e
  have hj2 : r ≤ j := by
    apply Nat.le_of_not_lt
    intro h
    have := h1 j h
    rw [e, sLess_irrefl] at this
    cases this
  by_cases e2 : r = j
  · subst e2; exact h3 hj e
  · have := hA.lt r j (by omega) hj
    rw [e, h2 r (Nat.le_refl _) (by omega)] at this
    cases this

/-- where the names before m end -/
def CutAt (l k : Nat) (S : Nat → ByteArray) (m : ByteArray) (r : Nat) : Prop := r ≤ k ∧ (∀ t, t < r → sLess (S (l + t)) m = true) ∧ (∀ t, r ≤ t → t < k → sLess (S (l + t)) m = false)

theorem CutAt.one {l k r q : Nat} {S : Nat → ByteArray} {m : ByteArray} (a : CutAt l k S m r) (b : CutAt l k S m q) : r = q := by
  rcases Nat.lt_trichotomy r q with h | h | h
  · have h1 := a.2.2 r (Nat.le_refl _) (by have := b.1; omega); rw [b.2.1 r h] at h1; cases h1
  · exact h
  · have h1 := b.2.2 q (Nat.le_refl _) (by have := a.1; omega); rw [a.2.1 q h] at h1; cases h1

theorem cut_exists {n : Nat} {S : Nat → ByteArray} (hA : Asc n S) (m : ByteArray) (l : Nat) : ∀ k, l + k ≤ n → ∃ r, CutAt l k S m r
  | 0, _ => ⟨0, Nat.le_refl _, fun t ht => absurd ht (by omega), fun t _ ht => absurd ht (by omega)⟩
  | k + 1, hk => by
    obtain ⟨r, h1, h2, h3⟩ := cut_exists hA m l k (by omega)
    by_cases e : r = k
    · cases hc : sLess (S (l + k)) m
      · exact ⟨r, by omega, h2, fun t ht htk => by
          have e2 : t = k := by omega
          rw [e2]; exact hc⟩
      · refine ⟨k + 1, Nat.le_refl _, fun t ht => ?_, fun t h1 h2 => absurd h2 (by omega)⟩
        by_cases e2 : t = k
        · rw [e2]; exact hc
        · exact h2 t (by omega)
    · refine ⟨r, by omega, h2, fun t ht htk => ?_⟩
      by_cases e2 : t = k
      · subst e2
        cases hc : sLess (S (l + t)) m
        · rfl
        · have := bl_trans _ _ _ (hA.lt (l + r) (l + t) (by omega) (by omega)) hc
          have h4 := h3 r (Nat.le_refl _) (by omega)
          rw [show Op.bytesLess (S (l + r)).toList m.toList = sLess (S (l + r)) m from rfl, h4] at this
          cases this
      · exact h3 t ht (by omega)

theorem cell_new (w : World) (v : Value) (t : TypeId) : (w.alloc (.cells #[v] t)).cell? ⟨w.heap.size, 0, none⟩ = some v := by
  rw [World.cell?_alloc_at _ _ _ _ (by simp)]; rfl

/-- the search over a row of ascending names, by a predicate that asks 's[l + j] >= m' -/
theorem search_law (g : Nat) (cb : Array Value) (eg : ∀ args w, (callFunc g args).run Try.prog w = .ok (.enter g args) w) (n l k r : Nat) (S : Nat → ByteArray) (m : ByteArray) (hk : l + k ≤ n) (hn : n ≤ 1048576) (hA : Asc n S) (hr : CutAt l k S m r) (W : World)
    (hf : ∀ (W' : World) (i : Nat), W.grownBy W' none → i < k → Calls Try.prog g (#[.int .i64 i] ++ cb) W' fun e w' => e = .returned (.bool (!sLess (S (l + i)) m)) ∧ W'.grownBy w' none) :
    Calls Try.prog 47 #[.int .i64 k, .func (.func g) #[] cb] W fun e w' => e = .returned (.int .i64 r) ∧ W.grownBy w' none := by
  refine (sortSearch g cb k (fun i => !sLess (S (l + i)) m) W eg (by omega) hf ?_).mono ?_
  · intro a b hab hb h
    cases hc : sLess (S (l + b)) m with
    | false => rfl
    | true =>
      exfalso
      by_cases e : a = b
      · subst e; simp [hc] at h
      · have h1 := hA.lt (l + a) (l + b) (by omega) (by omega)
        have := bl_trans _ _ _ h1 hc
        simp [sLess] at h
        rw [this] at h
        cases h
  · rintro e w' ⟨q, he, hq, h1, h2, hg⟩
    obtain rfl : r = q := hr.one ⟨hq, fun t ht => by simpa using h1 t ht, fun t ht htk => by simpa using h2 t ht htk⟩
    exact ⟨he, hg⟩

theorem enters48 : ∀ args w, (callFunc 48 args).run Try.prog w = .ok (.enter 48 args) w := enters_of Try.func48 (by kernel_rfl) rfl
theorem enters49 : ∀ args w, (callFunc 49 args).run Try.prog w = .ok (.enter 49 args) w := enters_of Try.func49 (by kernel_rfl) rfl

theorem search49 (a : Option Addr) (n cap bs bm r : Nat) (S : Nat → ByteArray) (C : Nat → Int) (m : ByteArray) (hn : n ≤ 1048576) (hA : Asc n S) (hr : CutAt 0 n S m r) (W : World)
    (h1 : W.cell? ⟨bs, 0, none⟩ = some (.slice a n cap)) (h2 : W.cell? ⟨bm, 0, none⟩ = some (.string m)) (hS : VEo W a n S C) :
    Calls Try.prog 47 #[.int .i64 n, .func (.func 49) #[] #[.pointer (some ⟨bs, 0, none⟩), .pointer (some ⟨bm, 0, none⟩)]] W fun e w' => e = .returned (.int .i64 r) ∧ W.grownBy w' none := by
  refine search_law 49 _ enters49 n 0 n r S m (by omega) hn hA hr W ?_
  intro W' i hg hi
  obtain ⟨ad, rfl, c1, c2⟩ := hS i hi
  have := clos49 bs bm n cap i ad (S i) m (C i) hi W' (hg.cell h1 (by simp)) (hg.cell h2 (by simp)) (hg.cell c1 (by simp)) (hg.cell c2 (by simp))
  rw [Nat.zero_add]
  exact this

theorem search48 (a : Option Addr) (n cap bw bl bm pb po lo k r : Nat) (S : Nat → ByteArray) (C : Nat → Int) (m : ByteArray) (hk : lo + k ≤ n) (hn : n ≤ 1048576) (hA : Asc n S) (hr : CutAt lo k S m r) (W : World)
    (h0 : W.cell? ⟨bw, 0, none⟩ = some (.pointer (some ⟨pb, po, none⟩))) (h1 : W.cell? ⟨pb, po, none⟩ = some (.slice a n cap)) (hl : W.cell? ⟨bl, 0, none⟩ = some (.int .i64 lo)) (h2 : W.cell? ⟨bm, 0, none⟩ = some (.string m)) (hS : VEo W a n S C) :
    Calls Try.prog 47 #[.int .i64 k, .func (.func 48) #[] #[.pointer (some ⟨bw, 0, none⟩), .pointer (some ⟨bl, 0, none⟩), .pointer (some ⟨bm, 0, none⟩)]] W fun e w' => e = .returned (.int .i64 r) ∧ W.grownBy w' none := by
  refine search_law 48 _ enters48 n lo k r S m hk hn hA hr W ?_
  intro W' i hg hi
  obtain ⟨ad, rfl, c1, c2⟩ := hS (lo + i) (by omega)
  exact clos48 bw bl bm pb po n cap lo i ad (S (lo + i)) m (C (lo + i)) (by omega) hn W' (hg.cell h0 (by simp)) (hg.cell h1 (by simp)) (hg.cell hl (by simp)) (hg.cell h2 (by simp)) (hg.cell c1 (by simp)) (hg.cell c2 (by simp))

theorem ret_tb {i : Int} {a b : Bool} (h : a = b) : Ending.returned (.tuple #[.int .i64 i, .bool a]) = .returned (.tuple #[.int .i64 i, .bool b]) := by rw [h]

/-- m stands at place i of n names -/
def At (n : Nat) (S : Nat → ByteArray) (m : ByteArray) (i : Nat) : Bool := decide (i < n) && ((S i).toList == m.toList)

theorem found_at {n r : Nat} {S : Nat → ByteArray} {m : ByteArray} (hA : Asc n S) (hr : CutAt 0 n S m r) : Found n S m r (At n S m r) := by
  have h1 : ∀ t, t < r → sLess (S t) m = true := fun t ht => by simpa using hr.2.1 t ht
  have h2 : ∀ t, r ≤ t → t < n → sLess (S t) m = false := fun t ht htn => by simpa using hr.2.2 t ht htn
  refine ⟨hr.1, fun h => ?_, fun h => found_of hA hr.1 h1 h2 fun hlt e => ?_⟩
  · simp only [At, Bool.and_eq_true, decide_eq_true_eq, beq_iff_eq] at h
    exact ⟨h.1, toList_inj h.2⟩
  · simp [At, hlt, e] at h

set_option maxHeartbeats 1000000 in
set_option maxRecDepth 100000 in
theorem search46 (a : Option Addr) (n cap r : Nat) (S : Nat → ByteArray) (C : Nat → Int) (m : ByteArray) (hn : n ≤ 1048576) (hA : Asc n S) (hr : CutAt 0 n S m r) (w : World) (hS : VEo w a n S C) :
    Calls Try.prog 46 #[.slice a n cap, .string m] w fun e w' => e = .returned (.tuple #[.int .i64 r, .bool (At n S m r)]) ∧ w.grownBy w' none := by
  obtain ⟨W, hW⟩ : ∃ W, W = (w.alloc (.cells #[.slice a n cap] 33)).alloc (.cells #[.string m] 30) := ⟨_, rfl⟩
  have g0 : w.grownBy W none := by rw [hW]; exact gb_alloc (gb_alloc (gb_refl _ _) _) _
  have h1 : W.cell? ⟨w.heap.size, 0, none⟩ = some (.slice a n cap) := by rw [hW]; exact (World.grownBy_alloc _ _ none).cell (cell_new _ _ _) (by simp)
  have h2 : W.cell? ⟨w.heap.size + 1, 0, none⟩ = some (.string m) := by rw [hW]; have := cell_new (w.alloc (.cells #[.slice a n cap] 33)) (.string m) 30; rwa [World.size_alloc] at this
  have hc := search49 a n cap w.heap.size (w.heap.size + 1) r S C m hn hA hr W h1 h2 (hS.new g0)
  rw [hW] at hc
  have HS : Hid (VEo W a n S C) := hS.new g0
  have HG : Hid (w.grownBy W none) := g0
  have HC : Hid _ := hc
  have HW : Hid (W = (w.alloc (.cells #[.slice a n cap] 33)).alloc (.cells #[.string m] 30)) := hW
  have H1 : Hid _ := h1
  have H2 : Hid _ := h2
  have hrn := hr.1
  clear hc hS g0 hW h1 h2 hA hr
  go_enter Try.func46, Try.ntmps46
  go_wp2_with fail
  refine Calls.mono HC.out ?_
  rintro e w2 ⟨rfl, hg⟩
  rw [← HW.out] at hg
  have HG2 : Hid _ := hg
  have k1 := hg.cell H1.out (by simp)
  have k2 := hg.cell H2.out (by simp)
  have g1 := cell_regrown k1
  have g2 := cell_regrown k2
  clear hg k1 k2
  by_cases hlt : r < n
  · obtain ⟨ad, rfl, c1, c2⟩ := HS.out r hlt
    have hi' : (r : Int) < (n : Int) := by omega
    have k3 := HG2.out.cell c1 (by simp)
    have k4 := HG2.out.cell c2 (by simp)
    have g3 := cell_regrown k3
    have g4 := cell_regrown k4
    clear c1 c2 k3 k4
    have hm := method_key (S r) (C r)
    simp only [invName, Try.f49] at hm
    go_wp2_with fail
    refine wp_region_quiet_below (by kernel_rfl) (by kernel_rfl) ?_
    repeat (first | go_big_quiet_step ((go_at_call 69; exact member_regrown _ _ _ _ _)) | quiet_step ((go_at_call 69; exact member_regrown _ _ _ _ _)))
    refine wpQuiet_nil ?_
    intro _ hw'
    obtain ⟨⟨dq, osq⟩, hw''⟩ := hw'
    subst hw''
    go_wp2
    go_ret2
    exact ⟨ret_tb (show ((S r).toList == m.toList) = At n S m r by simp [At, hlt]), gb_trans HG.out (gb_trans HG2.out (gb_regrown _ _ _ _))⟩
  · have hd : decide ((r : Int) < (n : Int)) = false := by simp; omega
    go_wp2_with fail
    refine wp_region_quiet_below (by kernel_rfl) (by kernel_rfl) ?_
    repeat (first | go_big_quiet_step ((go_at_call 69; exact member_regrown _ _ _ _ _)) | quiet_step ((go_at_call 69; exact member_regrown _ _ _ _ _)))
    refine wpQuiet_nil ?_
    intro _ hw'
    obtain ⟨⟨dq, osq⟩, hw''⟩ := hw'
    subst hw''
    go_wp2
    go_ret2
    exact ⟨ret_tb (show false = At n S m r by simp [At, hlt]), gb_trans HG.out (gb_trans HG2.out (gb_regrown _ _ _ _))⟩
end Go.Proofs.Qxb6613110a
