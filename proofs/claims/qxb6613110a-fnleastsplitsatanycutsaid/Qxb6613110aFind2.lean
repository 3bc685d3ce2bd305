/- find: a walk's own search. -/
import Derived.Test.Qxb6613110aFind
import Derived.Deep.RegionWith
namespace Go.Proofs.Qxb6613110a
open Go.RowKit Go.Sort Go.Shelf
set_option linter.unusedVariables false

/-- a walk at ⟨pb, po⟩ over a row of n entries, its next place k -/
structure WK (w : World) (pb po : Nat) (a : Option Addr) (n cap k : Nat) (S : Nat → ByteArray) (C : Nat → Int) : Prop where
  s : w.cell? ⟨pb, po, none⟩ = some (.slice a n cap)
  next : w.cell? ⟨pb, po + 1, none⟩ = some (.int .i64 k)
  free : w.frozen? ⟨pb, po + 1, none⟩ = false
  row : VEo w a n S C
  apart : 0 < n → ∀ ad, a = some ad → ad.block ≠ pb
  le : k ≤ n

theorem WK.new {w w' : World} {pb po : Nat} {a : Option Addr} {n cap k : Nat} {S : Nat → ByteArray} {C : Nat → Int} (h : WK w pb po a n cap k S C) (g : w.grownBy w' none) : WK w' pb po a n cap k S C :=
  ⟨g.cell h.s (by simp), g.cell h.next (by simp), (World.frozen?_of_block (g.block pb (World.block_lt_of_cell? _ _ h.next) (by simp))).trans h.free, h.row.new g, h.apart, h.le⟩

theorem WK.set {w : World} {pb po : Nat} {a : Option Addr} {n cap k : Nat} {S : Nat → ByteArray} {C : Nat → Int} (h : WK w pb po a n cap k S C) (k' : Nat) (hk : k' ≤ n) : WK (w.setCell ⟨pb, po + 1, none⟩ (.int .i64 k')) pb po a n cap k' S C :=
  ⟨by rw [World.cell?_setCell_other _ _ _ _ (by simp)]; exact h.s, World.cell?_setCell_same _ _ _ h.next, by rw [World.frozen?_setCell]; exact h.free,
    h.row.grown (gb_setCell (gb_refl w (some pb)) (.inr rfl) _) (fun hp ad e he => h.apart hp ad e (Option.some.inj he)), h.apart, hk⟩

/-- the same, with the two boxes of find -/
structure FW (w : World) (b0 b1 pb po : Nat) (m : ByteArray) (a : Option Addr) (n cap k : Nat) (S : Nat → ByteArray) (C : Nat → Int) : Prop where
  wk : WK w pb po a n cap k S C
  c0 : w.cell? ⟨b0, 0, none⟩ = some (.pointer (some ⟨pb, po, none⟩))
  c1 : w.cell? ⟨b1, 0, none⟩ = some (.string m)
theorem FW.new {w w' : World} {b0 b1 pb po : Nat} {m : ByteArray} {a : Option Addr} {n cap k : Nat} {S : Nat → ByteArray} {C : Nat → Int} (h : FW w b0 b1 pb po m a n cap k S C) (g : w.grownBy w' none) : FW w' b0 b1 pb po m a n cap k S C :=
  ⟨h.wk.new g, g.cell h.c0 (by simp), g.cell h.c1 (by simp)⟩

/-- what find leaves -/
def FindPost (w : World) (pb po : Nat) (m : ByteArray) (a : Option Addr) (n cap : Nat) (S : Nat → ByteArray) (C : Nat → Int) (e : Ending) (w' : World) : Prop :=
  ∃ (i : Nat) (b : Bool) (k' : Nat), e = .returned (.tuple #[.int .i64 i, .bool b]) ∧ Found n S m i b ∧ WK w' pb po a n cap k' S C ∧ w.grownBy w' (some pb)

theorem less_up {n hi : Nat} {S : Nat → ByteArray} {m : ByteArray} (hA : Asc n S) (hlt : hi < n) (h : sLess (S (hi - 1)) m = true) : ∀ t, t < hi → sLess (S t) m = true := by
  intro t ht
  by_cases e : t = hi - 1
  · rw [e]; exact h
  · exact bl_trans _ _ _ (hA.lt t (hi - 1) (by omega) (by omega)) h

/-- the place found between the bracket's ends is the place among all -/
theorem cut_join {n lo hi H r : Nat} {S : Nat → ByteArray} {m : ByteArray} (hA : Asc n S) (h1 : H ≤ n) (h2 : lo ≤ H) (hH : H = min hi n) (hb : n ≤ hi ∨ sLess (S (hi - 1)) m = false)
    (hl : ∀ t, t < lo → sLess (S t) m = true) (hr : CutAt lo (H - lo) S m r) : CutAt 0 n S m (lo + r) := by
  obtain ⟨r1, r2, r3⟩ := hr
  refine ⟨by omega, fun t ht => ?_, fun t ht htn => ?_⟩
  · rw [Nat.zero_add]
    by_cases e : t < lo
    · exact hl t e
    · have := r2 (t - lo) (by omega)
      rwa [show lo + (t - lo) = t by omega] at this
  · rw [Nat.zero_add]
    by_cases e : t < H
    · have := r3 (t - lo) (by omega) (by omega)
      rwa [show lo + (t - lo) = t by omega] at this
    · rcases hb with hb | hb
      · omega
      · cases hc : sLess (S t) m
        · rfl
        · by_cases e2 : t = hi - 1
          · rw [e2, hb] at hc; cases hc
          · have := bl_trans _ _ _ (hA.lt (hi - 1) t (by omega) (by omega)) hc
            rw [show Op.bytesLess (S (hi - 1)).toList m.toList = sLess (S (hi - 1)) m from rfl, hb] at this
            cases this

set_option maxHeartbeats 4000000 in
set_option maxRecDepth 100000 in
theorem find44 (pb po : Nat) (a : Option Addr) (n cap k : Nat) (S : Nat → ByteArray) (C : Nat → Int) (m : ByteArray) (hn : n ≤ 1048576) (hA : Asc n S) (w : World) (hK : WK w pb po a n cap k S C) :
    Calls Try.prog 44 #[.pointer (some ⟨pb, po, none⟩), .string m] w (FindPost w pb po m a n cap S C) := by
  have hpb := World.block_lt_of_cell? _ _ hK.s
  have hkn := hK.le
  have G0 : Hid (w.grownBy ((w.alloc (.cells #[.pointer (some ⟨pb, po, none⟩)] 95)).alloc (.cells #[.string m] 30)) none) := gb_alloc (gb_alloc (gb_refl _ _) _) _
  have F0 : Hid (FW ((w.alloc (.cells #[.pointer (some ⟨pb, po, none⟩)] 95)).alloc (.cells #[.string m] 30)) w.heap.size (w.heap.size + 1) pb po m a n cap k S C) :=
    ⟨hK.new G0.out, (World.grownBy_alloc _ _ none).cell (cell_new _ _ _) (by simp), by have := cell_new (w.alloc (.cells #[.pointer (some ⟨pb, po, none⟩)] 95)) (.string m) 30; rwa [World.size_alloc] at this⟩
  have HA : Hid (Asc n S) := hA
  have c0 := F0.out.wk.next
  clear hK hA
  go_enter Try.func44, Try.ntmps44
  go_upto_region 2 with fail
  clear c0
  generalize (w.alloc (.cells #[.pointer (some ⟨pb, po, none⟩)] 95)).alloc (.cells #[.string m] 30) = W at G0 F0 ⊢
  go_cut [33] (fun t wx => ∃ b, t = .bool b ∧ Hid ((b = true → k < n ∧ S k = m) ∧ (b = false → k < n → S k ≠ m)) ∧ Hid (W.grownBy wx none))
  case first =>
    have g1 := cell_regrown F0.out.wk.s
    have g2 := cell_regrown F0.out.c0
    have g3 := cell_regrown F0.out.c1
    by_cases hlt : k < n
    · obtain ⟨ad, rfl, c1, c2⟩ := F0.out.wk.row k hlt
      have hi' : (k : Int) < (n : Int) := by omega
      have g4 := cell_regrown c1
      have g5 := cell_regrown c2
      clear c1 c2
      have hm := method_key (S k) (C k)
      simp only [invName, Try.f49] at hm
      refine wp_region_quiet_below (by kernel_rfl) (by kernel_rfl) ?_
      repeat (first | go_big_quiet_step ((go_at_call 69; exact member_regrown _ _ _ _ _)) | quiet_step ((go_at_call 69; exact member_regrown _ _ _ _ _)))
      refine wpQuiet_nil ?_
      intro _ hw'
      obtain ⟨⟨dq, osq⟩, hw''⟩ := hw'
      subst hw''
      go_wp2
      go_meet
      case rel => exact ⟨_, rfl, ⟨fun h => ⟨hlt, toList_inj (beq_iff_eq.1 h)⟩, fun h _ e => by rw [e] at h; simp at h⟩, gb_regrown _ _ _ _⟩
    · have hd : decide ((k : Int) < (n : Int)) = false := by simp; omega
      refine wp_region_quiet_below (by kernel_rfl) (by kernel_rfl) ?_
      repeat (first | go_big_quiet_step ((go_at_call 69; exact member_regrown _ _ _ _ _)) | quiet_step ((go_at_call 69; exact member_regrown _ _ _ _ _)))
      refine wpQuiet_nil ?_
      intro _ hw'
      obtain ⟨⟨dq, osq⟩, hw''⟩ := hw'
      subst hw''
      go_wp2
      go_meet
      case rel => exact ⟨false, rfl, ⟨(fun h => by cases h), fun _ h => absurd h hlt⟩, gb_regrown _ _ _ _⟩
  case rest =>
    obtain ⟨b, rfl, HB, HG⟩ := hcut
    have F1 : Hid (FW wc w.heap.size (w.heap.size + 1) pb po m a n cap k S C) := F0.out.new HG.out
    have G1 : Hid (w.grownBy wc none) := gb_trans G0.out HG.out
    clear F0 G0 HG
    obtain ⟨w1, rfl⟩ : ∃ w1 : World, w1 = wc := ⟨_, rfl⟩
    cases b with
    | true =>
      have HB1 : Hid (k < n ∧ S k = m) := HB.out.1 rfl
      clear HB
      have c0 := F1.out.c0
      have c1 := F1.out.wk.next
      have c2 := F1.out.wk.free
      have c3 := F1.out.wk.s
      go_wp2
      go_ret2
      exact ⟨k, true, k + 1, rfl, ⟨hkn, fun _ => HB1.out, fun h => by cases h⟩, F1.out.wk.set (k + 1) HB1.out.1, gb_setCell (gb_but G1.out _) (.inr rfl) _⟩
    | false =>
      have HB1 : Hid (k < n → S k ≠ m) := HB.out.2 rfl
      clear HB
      go_upto_region 5 with fail
      go_cut [55] (fun t wx => ∃ b, t = .bool b ∧ Hid ((b = true → 0 < k) ∧ (b = false → k = 0 ∨ sLess (S (k - 1)) m = true)) ∧ Hid (w1.grownBy wx none))
      case first =>
        have g1 := cell_regrown F1.out.wk.s
        have g2 := cell_regrown F1.out.c0
        have g3 := cell_regrown F1.out.c1
        by_cases hlt : 0 < k
        · obtain ⟨ad, rfl, c1, c2⟩ := F1.out.wk.row (k - 1) (by omega)
          have hi' : (0 : Int) < (k : Int) := by omega
          have hi2 : (k : Int) - 1 < (n : Int) := by omega
          have g4 := cell_regrown c1
          have g5 := cell_regrown c2
          clear c1 c2
          have hm := method_key (S (k - 1)) (C (k - 1))
          simp only [invName, Try.f49] at hm
          refine wp_region_quiet_below (by kernel_rfl) (by kernel_rfl) ?_
          repeat (first | go_big_quiet_step ((go_at_call 69; exact member_regrown _ _ _ _ _)) | quiet_step ((go_at_call 69; exact member_regrown _ _ _ _ _)))
          refine wpQuiet_nil ?_
          intro _ hw'
          obtain ⟨⟨dq, osq⟩, hw''⟩ := hw'
          subst hw''
          go_wp2
          go_meet
          case rel => exact ⟨!sLess (S (k - 1)) m, rfl, ⟨fun _ => hlt, fun h => .inr (by simpa using h)⟩, gb_regrown _ _ _ _⟩
        · have hd : decide ((0 : Int) < (k : Int)) = false := by simp; omega
          refine wp_region_quiet_below (by kernel_rfl) (by kernel_rfl) ?_
          repeat (first | go_big_quiet_step ((go_at_call 69; exact member_regrown _ _ _ _ _)) | quiet_step ((go_at_call 69; exact member_regrown _ _ _ _ _)))
          refine wpQuiet_nil ?_
          intro _ hw'
          obtain ⟨⟨dq, osq⟩, hw''⟩ := hw'
          subst hw''
          go_wp2
          go_meet
          case rel => exact ⟨false, rfl, ⟨(fun h => by cases h), fun _ => .inl (by omega)⟩, gb_regrown _ _ _ _⟩
      case rest =>
        obtain ⟨b, rfl, HB2, HG⟩ := hcut
        have F2 : Hid (FW wc w.heap.size (w.heap.size + 1) pb po m a n cap k S C) := F1.out.new HG.out
        have G2 : Hid (w.grownBy wc none) := gb_trans G1.out HG.out
        clear F1 G1 HG
        obtain ⟨w2, rfl⟩ : ∃ w2 : World, w2 = wc := ⟨_, rfl⟩
        cases b with
        | true =>
          clear HB2
          obtain ⟨r, hr⟩ := cut_exists HA.out m 0 n (by omega)
          have g1 := cell_regrown F2.out.wk.s
          have g2 := cell_regrown F2.out.c0
          have g3 := cell_regrown F2.out.c1
          have HC : Hid (∀ d os, Calls Try.prog 46 #[.slice a n cap, .string m] (grow (redrawn w2 d) os) fun e w'' => e = .returned (.tuple #[.int .i64 r, .bool (At n S m r)]) ∧ ∃ p : Regrown, w'' = grow (redrawn w2 p.d) p.os) :=
            fun d os => Calls.regrown (search46 a n cap r S C m hn HA.out hr _ (F2.out.wk.row.new (gb_regrown w2 d os none)))
          have HR : Hid (CutAt 0 n S m r) := hr
          clear hr
          go_wp2_with fail
          refine wp_region_quiet_below (by kernel_rfl) (by kernel_rfl) ?_
          repeat (first | go_big_quiet_step ((go_at_call 46; exact HC.out _ _)) | quiet_step ((go_at_call 46; exact HC.out _ _)))
          refine wpQuiet_nil ?_
          intro _ hw'
          obtain ⟨⟨dq, osq⟩, hw''⟩ := hw'
          subst hw''
          go_wp2
          go_ret2
          exact ⟨r, At n S m r, k, rfl, found_at HA.out HR.out, F2.out.wk.new (gb_regrown _ _ _ _), gb_but (gb_trans G2.out (gb_regrown _ _ _ _)) _⟩
        | false =>
          have HB3 : Hid (k = 0 ∨ sLess (S (k - 1)) m = true) := HB2.out.2 rfl
          clear HB2
          have cN : Hid ((w2.alloc (.cells #[.int .i64 k] 3)).cell? ⟨w2.heap.size, 0, none⟩ = some (.int .i64 k)) := cell_new _ _ _
          have fN : Hid ((w2.alloc (.cells #[.int .i64 k] 3)).frozen? ⟨w2.heap.size, 0, none⟩ = false) := by simp [Hid]
          go_wp2_with fail
          go_loopg [8] n (fun gk s8 wr => ∃ lo hi : Nat, s8 = .int .i64 hi ∧ lo < hi ∧ lo ≤ n ∧ hi ≤ 3145729 ∧ n - hi ≤ gk ∧ Aside (wr.cell? ⟨w2.heap.size, 0, none⟩ = some (.int .i64 lo) ∧ wr.frozen? ⟨w2.heap.size, 0, none⟩ = false ∧ w2.grownBy wr none ∧ ∀ t, t < lo → sLess (S t) m = true))
          case atStart =>
            refine ⟨k, k + 1, by go_num, by omega, hkn, by omega, by omega, cN.out, fN.out, gb_alloc (gb_refl _ _) _, fun t ht => ?_⟩
            rcases HB3.out with h | h
            · omega
            · by_cases e : t = k - 1
              · rw [e]; exact h
              · exact bl_trans _ _ _ (HA.out.lt t (k - 1) (by omega) (by omega)) h
          case round =>
            obtain ⟨lo, hi, rfl, hlh, hln, hhi, hgk, I⟩ := hrel
            have F3 : Hid (FW wr w.heap.size (w.heap.size + 1) pb po m a n cap k S C) := F2.out.new I.out.2.2.1
            go_upto_region 8 with fail
            go_cut [87] (fun t wx => ∃ b, t = .bool b ∧ Hid ((b = true → hi < n ∧ sLess (S (hi - 1)) m = true) ∧ (b = false → n ≤ hi ∨ sLess (S (hi - 1)) m = false)) ∧ Hid (wr.grownBy wx none))
            case first =>
              have g1 := cell_regrown F3.out.wk.s
              have g2 := cell_regrown F3.out.c0
              have g3 := cell_regrown F3.out.c1
              by_cases hlt : hi < n
              · obtain ⟨ad, rfl, c1, c2⟩ := F3.out.wk.row (hi - 1) (by omega)
                have hi' : (hi : Int) < (n : Int) := by omega
                have hi2 : (hi : Int) - 1 < (n : Int) := by omega
                have g4 := cell_regrown c1
                have g5 := cell_regrown c2
                clear c1 c2
                have hm := method_key (S (hi - 1)) (C (hi - 1))
                simp only [invName, Try.f49] at hm
                refine wp_region_quiet_below (by kernel_rfl) (by kernel_rfl) ?_
                repeat (first | go_big_quiet_step ((go_at_call 69; exact member_regrown _ _ _ _ _)) | quiet_step ((go_at_call 69; exact member_regrown _ _ _ _ _)))
                refine wpQuiet_nil ?_
                intro _ hw'
                obtain ⟨⟨dq, osq⟩, hw''⟩ := hw'
                subst hw''
                go_wp2
                go_meet
                case rel => exact ⟨sLess (S (hi - 1)) m, rfl, ⟨fun h => ⟨hlt, h⟩, fun h => .inr h⟩, gb_regrown _ _ _ _⟩
              · have hd : decide ((hi : Int) < (n : Int)) = false := by simp; omega
                refine wp_region_quiet_below (by kernel_rfl) (by kernel_rfl) ?_
                repeat (first | go_big_quiet_step ((go_at_call 69; exact member_regrown _ _ _ _ _)) | quiet_step ((go_at_call 69; exact member_regrown _ _ _ _ _)))
                refine wpQuiet_nil ?_
                intro _ hw'
                obtain ⟨⟨dq, osq⟩, hw''⟩ := hw'
                subst hw''
                go_wp2
                go_meet
                case rel => exact ⟨false, rfl, ⟨(fun h => by cases h), fun _ => .inl (by omega)⟩, gb_regrown _ _ _ _⟩
            case rest =>
              obtain ⟨b, rfl, HB4, HG⟩ := hcut
              have I3 : Hid (wc.cell? ⟨w2.heap.size, 0, none⟩ = some (.int .i64 lo) ∧ wc.frozen? ⟨w2.heap.size, 0, none⟩ = false ∧ w2.grownBy wc none ∧ ∀ t, t < lo → sLess (S t) m = true) :=
                ⟨HG.out.cell I.out.1 (by simp), (World.frozen?_of_block (HG.out.block w2.heap.size (World.block_lt_of_cell? _ _ I.out.1) (by simp))).trans I.out.2.1, gb_trans I.out.2.2.1 HG.out, I.out.2.2.2⟩
              have F4 : Hid (FW wc w.heap.size (w.heap.size + 1) pb po m a n cap k S C) := F3.out.new HG.out
              clear F3 HG I
              obtain ⟨w3, rfl⟩ : ∃ w3 : World, w3 = wc := ⟨_, rfl⟩
              cases b with
              | true =>
                have HB5 : Hid (hi < n ∧ sLess (S (hi - 1)) m = true) := HB4.out.1 rfl
                have hlt : hi < n := HB5.out.1
                clear HB4
                have c0 := I3.out.1
                have c1 := I3.out.2.1
                go_wp2
                go_roundg (n - (hi + 2 * (hi - lo)))
                case measure => omega
                case rel =>
                  refine ⟨hi, hi + 2 * (hi - lo), ?_, by omega, by omega, by omega, Nat.le_refl _, ?_⟩
                  · exact congrArg (Value.int .i64) (by omega)
                  · exact ⟨World.cell?_setCell_same _ _ _ c0, by rw [World.frozen?_setCell]; exact c1, gb_setCell I3.out.2.2.1 (.inl (Nat.le_refl _)) _, less_up HA.out hlt HB5.out.2⟩
              | false =>
                have HB5 : Hid (n ≤ hi ∨ sLess (S (hi - 1)) m = false) := HB4.out.2 rfl
                clear HB4
                go_upto_region 10 with fail
                go_cut [8] (fun s8 wx => ∃ H : Nat, s8 = .int .i64 H ∧ Hid (H = min hi n) ∧ wx = w3)
                case first =>
                  have c0 := F4.out.c0
                  have c1 := F4.out.wk.s
                  go_wp2
                  all_goals
                    go_meet
                    case rel => first | exact ⟨hi, rfl, by show hi = min hi n; omega, rfl⟩ | exact ⟨n, rfl, by show n = min hi n; omega, rfl⟩
                case rest =>
                  obtain ⟨H, rfl, HH, rfl⟩ := hcut
                  have hH1 : H ≤ n := by have := HH.out; omega
                  have hH2 : lo ≤ H := by have := HH.out; omega
                  obtain ⟨r, hr⟩ := cut_exists HA.out m lo (H - lo) (by omega)
                  have hr1 : r ≤ H - lo := hr.1
                  have HC : Hid (∀ d os, Calls Try.prog 47 #[.int .i64 ((H : Int) - (lo : Int)), .func (.func 48) #[] #[.pointer (some ⟨w.heap.size, 0, none⟩), .pointer (some ⟨w2.heap.size, 0, none⟩), .pointer (some ⟨w.heap.size + 1, 0, none⟩)]] (grow (redrawn wc d) os) fun e w'' => e = .returned (.int .i64 r) ∧ ∃ p : Regrown, w'' = grow (redrawn wc p.d) p.os) := by
                    intro d os
                    have := search48 a n cap w.heap.size w2.heap.size (w.heap.size + 1) pb po lo (H - lo) r S C m (by omega) hn HA.out hr (grow (redrawn wc d) os) (cell_regrown F4.out.c0 d os) (cell_regrown F4.out.wk.s d os) (cell_regrown I3.out.1 d os) (cell_regrown F4.out.c1 d os) (F4.out.wk.row.new (gb_regrown wc d os none))
                    rw [show ((H - lo : Nat) : Int) = (H : Int) - (lo : Int) by omega] at this
                    exact Calls.regrown this
                  have HR : Hid (CutAt 0 n S m (lo + r)) := cut_join HA.out hH1 hH2 HH.out HB5.out I3.out.2.2.2 hr
                  clear hr
                  have g1 := cell_regrown I3.out.1
                  go_upto_region 11 with fail
                  go_cut [6] (fun s6 wx => ∃ i : Nat, s6 = .int .i64 i ∧ i = lo + r ∧ Hid (wc.grownBy wx none))
                  case first =>
                    refine wp_region_quiet_below (by kernel_rfl) (by kernel_rfl) ?_
                    repeat (first | go_big_quiet_step ((go_at_call 47; exact HC.out _ _)) | quiet_step ((go_at_call 47; exact HC.out _ _)))
                    refine wpQuiet_nil ?_
                    intro _ hw'
                    obtain ⟨⟨dq, osq⟩, hw''⟩ := hw'
                    subst hw''
                    go_wp2
                    go_meet
                    case rel => exact ⟨lo + r, congrArg (Value.int .i64) (by omega), rfl, gb_regrown _ _ _ _⟩
                  case rest =>
                    obtain ⟨i, rfl, Hi, HG⟩ := hcut
                    have hin : i ≤ n := by omega
                    have F5 : Hid (FW wc w.heap.size (w.heap.size + 1) pb po m a n cap k S C) := F4.out.new HG.out
                    have G5 : Hid (w.grownBy wc none) := gb_trans G2.out (gb_trans I3.out.2.2.1 HG.out)
                    have HR2 : Hid (Found n S m i (At n S m i)) := by rw [Hi]; exact found_at HA.out HR.out
                    clear F4 HG HR HC Hi I3 HB5 HB3 HH g1 cN fN hr1 hH1 hH2
                    obtain ⟨w4, rfl⟩ : ∃ w4 : World, w4 = wc := ⟨_, rfl⟩
                    go_upto_region 12 with fail
                    go_cut [9] (fun t wx => t = .bool (At n S m i) ∧ Hid (w4.grownBy wx none))
                    case first =>
                      have g1 := cell_regrown F5.out.wk.s
                      have g2 := cell_regrown F5.out.c0
                      have g3 := cell_regrown F5.out.c1
                      by_cases hlt : i < n
                      · obtain ⟨ad, rfl, c1, c2⟩ := F5.out.wk.row i hlt
                        have hi' : (i : Int) < (n : Int) := by omega
                        have g4 := cell_regrown c1
                        have g5 := cell_regrown c2
                        clear c1 c2
                        have hm := method_key (S i) (C i)
                        simp only [invName, Try.f49] at hm
                        refine wp_region_quiet_below (by kernel_rfl) (by kernel_rfl) ?_
                        repeat (first | go_big_quiet_step ((go_at_call 69; exact member_regrown _ _ _ _ _)) | quiet_step ((go_at_call 69; exact member_regrown _ _ _ _ _)))
                        refine wpQuiet_nil ?_
                        intro _ hw'
                        obtain ⟨⟨dq, osq⟩, hw''⟩ := hw'
                        subst hw''
                        go_wp2
                        go_meet
                        case rel => exact ⟨congrArg Value.bool (show ((S i).toList == m.toList) = At n S m i by simp [At, hlt]), gb_regrown _ _ _ _⟩
                      · have hd : decide ((i : Int) < (n : Int)) = false := by simp; omega
                        refine wp_region_quiet_below (by kernel_rfl) (by kernel_rfl) ?_
                        repeat (first | go_big_quiet_step ((go_at_call 69; exact member_regrown _ _ _ _ _)) | quiet_step ((go_at_call 69; exact member_regrown _ _ _ _ _)))
                        refine wpQuiet_nil ?_
                        intro _ hw'
                        obtain ⟨⟨dq, osq⟩, hw''⟩ := hw'
                        subst hw''
                        go_wp2
                        go_meet
                        case rel => exact ⟨congrArg Value.bool (show false = At n S m i by simp [At, hlt]), gb_regrown _ _ _ _⟩
                    case rest =>
                      obtain ⟨rfl, HG⟩ := hcut
                      have F6 : Hid (FW wc w.heap.size (w.heap.size + 1) pb po m a n cap k S C) := F5.out.new HG.out
                      have G6 : Hid (w.grownBy wc none) := gb_trans G5.out HG.out
                      have c0 := F6.out.c0
                      have c1 := F6.out.wk.next
                      have c2 := F6.out.wk.free
                      have hb0 : pb ≠ w.heap.size := by omega
                      clear F5 G5 HG
                      cases hat : At n S m i
                      · rw [hat] at HR2
                        go_wp2
                        go_ret2
                        exact ⟨i, false, i, rfl, HR2.out, F6.out.wk.set i hin, gb_setCell (gb_but G6.out _) (.inr rfl) _⟩
                      · rw [hat] at HR2
                        have hlt : i < n := (HR2.out.2.1 rfl).1
                        go_wp2
                        go_ret2
                        exact ⟨i, true, i + 1, rfl, HR2.out, (F6.out.wk.set i hin).set (i + 1) hlt, gb_setCell (gb_setCell (gb_but G6.out _) (.inr rfl) _) (.inr rfl) _⟩
end Go.Proofs.Qxb6613110a
