/- The law: what Expire lets go of, compared with the messages; a second Expire lets go of none. -/
import Derived.Test.Qxb6613072aZz
namespace Go.Proofs.Qxb6613072a
open Go.RowKit Go.Maps Go.Sort

theorem gb_mo {w a c : World} {mo : Option Nat} (h : w.grownBy a none) (k : a.grownBy c mo) (hm : ∀ mb, mo = some mb → w.heap.size ≤ mb) : w.grownBy c none :=
  ⟨k.os.trans h.os, k.tape.trans h.tape, k.output.trans h.output, Nat.le_trans h.size k.size, fun i hi hn => (k.block i (Nat.lt_of_lt_of_le hi h.size) (fun e => by have := hm i e.symm; omega)).trans (h.block i hi hn)⟩

theorem same_regrown {wr : World} {lb k hb n i : Nat} {ad : Addr} {M : Nat → HM} (hw : (M i).Wf) (hsn : (M i).sn ≤ 254) (hI : Inc1 wr lb (k * 9) hb (M i)) (hS : MsgO wr (some ad) n M) (hi : i < n) (dq : Nat) (os : Array Obj) :
    Calls Try.prog 17 #[.pointer (some ⟨lb, k * 9, none⟩), .pointer (some (ad.add (i * 7)))] (grow (redrawn wr dq) os) fun e w'' => e = .returned (.bool true) ∧ ∃ p : Regrown, w'' = grow (redrawn wr p.d) p.os := by
  have g := gb_regrown wr dq os none
  obtain ⟨ad', e, c0, c1, c2, c3, c4, c5, c6, c7⟩ := hS.grown g i hi
  cases e
  obtain ⟨l0, l1⟩ := wf_i64 hw.lat
  exact Calls.regrown_of ((same17 lb (k * 9) hb (ad.add (i * 7)) (M i) (grow (redrawn wr dq) os) l0 l1 hsn (hI.grown g (by simp) (by simp)) ⟨c0, c1, c2, c3, c4⟩ c5 c6 c7).mono fun _ _ h => ⟨h.1, gb_below h.2.out⟩)

set_option maxRecDepth 100000 in
set_option maxHeartbeats 4000000 in
theorem law5 (hInc : ∀ M, IncOk M) (a : Option Addr) (n cap : Nat) (M : Nat → HM) (y : Int) (hn : n ≤ maxLen) (hl : ∀ i, i < n → (M i).Wf ∧ (M i).sn ≤ maxLen) (y0 : -9223372036854775808 ≤ y) (y1 : y ≤ 9223372036854775807) (w : World) (hS : MsgO w a n M) :
    Calls Try.prog 5 #[.slice a n cap, .int .i64 y] w fun e w' => e = .returned (.bool true) ∧ Hid (w.grownBy w' none) := by
  have HS : Hid (MsgO w a n M) := hS
  have HL : Hid (∀ i, i < n → (M i).Wf ∧ (M i).sn ≤ maxLen) := hl
  have HI : Hid (∀ M, IncOk M) := hInc
  clear hS hl hInc
  go_enter Try.func5, Try.ntmps5
  go_wp2_with (first
    | (go_at_call 12; refine (bytes12 y a n cap M hn (fun i hi => ⟨(HL.out i hi).1.o, (HL.out i hi).2⟩) w HS.out).mono ?_; rintro e w1 ⟨⟨b, rfl⟩, rfl⟩; cases b)
    | (go_at_call 13; refine (fits13 a n cap M hn (fun i hi => ⟨(HL.out i hi).1.o, (HL.out i hi).2⟩) w HS.out).mono ?_; rintro e w1 ⟨b, rfl, hb, q, rfl⟩; have HB : Hid (b = true → n ≤ 4096) := hb; clear hb; cases b)
    | (go_at_call 14; have hn4 := HB.out (by first | trivial | rfl); clear HB; refine (reach14 a n cap M hn4 (fun i hi => (HL.out i hi).2) _ (HS.out.grown (gb_drewN (gb_refl _ _) q))).mono ?_; rintro e w1 ⟨⟨b, rfl, hr⟩, q2, rfl⟩; have HRR : Hid (b = true → ReachTo M n) := hr; clear hr; cases b)
    | (go_at_call 15
       have HOK : Hid (MsOK n M) := msOK_of HL.out (HRR.out (by first | trivial | rfl))
       refine (build15 a n cap M hn4 HOK.out _ (HS.out.grown (by first | exact gb_drewN (gb_drewN (gb_refl _ _) q) q2 | exact gb_drewN (gb_refl _ _) _))).mono ?_
       rintro e w3 ⟨rfl, HJS⟩
       obtain ⟨pb, mo, hJo, hmo⟩ := jho_of_js HJS.out HOK.out hn4
       have HJo : Hid (JHo M (· < n) pb w3 w.heap.size mo) := hJo
       have HMO : Hid (∀ mb, mo = some mb → w.heap.size ≤ mb) := hmo
       have HG3 : Hid (w.grownBy w3 none) := gb_trans (by first | exact gb_drewN (gb_drewN (gb_refl _ _) q) q2 | exact gb_drewN (gb_refl _ _) _) HJS.out.1
       clear HJS hJo hmo HRR)
    | (go_at_call 16; refine (zzexp16 (HI.out M) w.heap.size mo y w3 HJo.out y0 y1).mono ?_; rintro e w4 ⟨lb, L, c, ix, rfl, HX⟩))
  · go_ret
    exact ⟨rfl, gb_refl _ _⟩
  · go_ret
    exact ⟨rfl, gb_drewN (gb_refl _ _) q⟩
  · go_ret
    exact ⟨rfl, by first | exact gb_drewN (gb_drewN (gb_refl _ _) q) q2 | exact gb_drewN (gb_refl _ _) _⟩
  · have HG4 : Hid (w.grownBy w4 none) := gb_mo HG3.out HX.out.gb HMO.out
    have hL := HX.out.le
    go_loopw [7, 27] (fun kv i wr => ∃ (t k : Nat), t ≤ n ∧ k ≤ L ∧ i = .int .i64 t ∧ kv = .int .i64 k ∧ Hid (Upto L ix t k) ∧ Hid (w4.grownBy wr none)) (fun _ i _ => n - (intOf i).toNat)
    case atStart => exact ⟨0, 0, Nat.zero_le _, Nat.zero_le _, rfl, rfl, ⟨fun t ht => by omega, fun t _ _ => Nat.zero_le _⟩, gb_refl _ _⟩
    case round =>
      obtain ⟨t, k, ht, hk, rfl, rfl, HU, HR⟩ := hrel
      by_cases hlt : t < n
      · have HSr : Hid (MsgO wr a n M) := HS.out.grown (gb_trans HG4.out HR.out)
        obtain ⟨ad, rfl, c0, c1, c2, c3, c4, c5, c6, _⟩ := HSr.out t hlt
        clear c0 c1 c2 c3 c4 c5
        by_cases hlat : (M t).lat < y
        · have hd : decide ((M t).lat < y) = true := decide_eq_true hlat
          obtain ⟨hkL, hix, hU'⟩ := HU.out.hit HX.out.enum hk ⟨hlt, hlat⟩
          obtain ⟨hb, _, hI1⟩ := HX.out.ents k hkL
          rw [hix] at hI1
          have hA := same_regrown (HL.out t hlt).1 (HOK.out.sn t hlt) (hI1.grown HR.out (by simp) (by simp)) HSr.out hlt
          have HU' : Hid (Upto L ix (t + 1) (k + 1)) := hU'
          have hge : decide (L ≤ k) = false := by simp; omega
          clear hI1 hix hU'
          go_wp2_with fail
          refine wp_region_quiet_below (by kernel_rfl) (by kernel_rfl) ?_
          repeat (first | go_big_quiet_step ((go_at_call 17; exact hA _ _)) | quiet_step ((go_at_call 17; exact hA _ _)))
          refine wpQuiet_nil ?_
          intro _ hw'
          obtain ⟨⟨dq, osq⟩, hw''⟩ := hw'
          subst hw''
          have HR' : Hid (w4.grownBy (grow (redrawn wr dq) osq) none) := gb_trans HR.out (gb_regrown _ _ _ _)
          go_wp2
          exact ⟨⟨t + 1, k + 1, by omega, by omega, by simp, by simp, HU', HR'⟩, by simp [intOf]; omega⟩
        · have hd : decide ((M t).lat < y) = false := decide_eq_false hlat
          have HU' : Hid (Upto L ix (t + 1) k) := HU.out.miss HX.out.enum (fun h => hlat h.2)
          go_wp2
          exact ⟨⟨t + 1, k, by omega, hk, by simp, rfl, HU', HR⟩, by simp [intOf]; omega⟩
      · obtain rfl : t = n := by omega
        obtain rfl : k = L := HU.out.fin HX.out.enum hk (fun i hi => hi.1)
        go_wp2_with (first | (go_at_call 16; refine (zzexp16 (HI.out M) w.heap.size mo y wr (HX.out.jh.grown HR.out) y0 y1).mono ?_; rintro e w5 ⟨lb2, L2, e2, ix2, rfl, HX2⟩; obtain rfl : L2 = 0 := enum_none HX2.out.enum (fun i hi => hi.1.2 hi.2)))
        go_ret
        exact ⟨rfl, gb_mo (gb_trans HG4.out HR.out) HX2.out.gb HMO.out⟩
end Go.Proofs.Qxb6613072a
