/- incomplete: the held messages that the closure picks, in the order in which they began. -/
import Derived.Test.Qxb6613072aSpec
import Derived.BigRegion
namespace Go.Proofs.Qxb6613072a
open Go.RowKit Go.Maps Go.Sort

theorem info45 : (Try.prog.info? 45).map (fun i => (i.zero, i.size, i.bytes)) = some (some (.agg #[.int .u8 0, .string ⟨#[]⟩, .int .u8 0, .int .i64 0, .int .i64 0, .slice none 0 0, .int .u64 0, .int .i64 0, .pointer none]), 9, 96) := by kernel_rfl
theorem info3 : (Try.prog.info? 3).map (fun i => (i.zero, i.size, i.bytes)) = some (some (.int .i64 0), 1, 8) := by kernel_rfl
theorem info78 : (Try.prog.info? 78).map (fun i => (i.zero, i.size, i.bytes)) = some (some (.agg #[.string ⟨#[]⟩, .int .i64 0, .int .i64 0, .int .u8 0, .int .u8 0]), 5, 40) := by kernel_rfl

set_option maxRecDepth 100000 in
set_option maxHeartbeats 2000000 in
theorem inc29 {M : Nat → HM} {Hd : Nat → Prop} {pb : Nat → Nat} (jb mb tb : Nat) (y : Int) (w : World) (hJ : JH M Hd pb w jb mb)
    (d0 : w.cell? ⟨tb, 0, none⟩ = some (.int .u64 (y % 1000000000))) (d1 : w.cell? ⟨tb, 1, none⟩ = some (.int .i64 (y / 1000000000))) (d2 : w.cell? ⟨tb, 2, none⟩ = some (.pointer none)) :
    Calls Try.prog 29 #[.pointer (some ⟨jb, 0, none⟩), .func (.func 32) #[] #[.pointer (some ⟨tb, 0, none⟩)]] w fun e w' => ∃ lb L c ix, e = .returned (.slice (some ⟨lb, 0, none⟩) L c) ∧ Hid (IncOut M Hd y w L lb ix w') := by
  obtain ⟨n, D, hn, ho, hm⟩ := hJ.own
  have km := hJ.km
  have hmb := ho.lt
  have HJ : Hid (JH M Hd pb w jb mb) := hJ
  have HO : Hid (w.ownsMap Try.prog 78 RP mb n D) := ho
  have HM : Hid (MapIs M Hd pb D) := hm
  have HN : Hid (n ≤ 4096) := hn
  have HD : Hid (w.cell? ⟨tb, 0, none⟩ = some (.int .u64 (y % 1000000000)) ∧ w.cell? ⟨tb, 1, none⟩ = some (.int .i64 (y / 1000000000)) ∧ w.cell? ⟨tb, 2, none⟩ = some (.pointer none)) := ⟨d0, d1, d2⟩
  clear hJ ho hm d0 d1 d2
  have hj : jb < w.heap.size := block_lt_of_cell km
  have hj1 : jb < w.heap.size + 1 := by omega
  have hj2 : jb < w.heap.size + 1 + 1 := by omega
  go_enter Try.func29, Try.ntmps29
  go_wp2_with (first | (at_range; refine wpList_range_own _ rfl _ 52 rfl 78 63 law Try.underlying52 RP mb n D rfl ((HO.out.alloc _).alloc _) ?_; intro w0 hrg0 hg0 hs0))
  simp only [Act.put, List.setIfInBounds_toArray, List.set_cons_succ, List.set_cons_zero, World.size_alloc]
  obtain ⟨N, hN⟩ : ∃ N, w.heap.size = N := ⟨_, rfl⟩
  have HR : Hid (IncR M Hd y w jb mb n D N w0) := by
    subst hN
    simp only [World.size_alloc] at hrg0 hs0
    refine ⟨_, _, [], .slice none 0 0, hrg0, fun _ h => h, ?_, World.ownsRow_nil _ _ _ _, List.nodup_nil, fun x hx => (by cases hx), fun i hi _ => .inl (HM.out.all i hi).1, hg0.cell (by simp) (by simp), gb_trans (gb_alloc (gb_alloc (gb_refl _ _) _) _) hg0, by omega, by simpa using HO.out.size_le⟩
    refine rowIs_grown (t := 86) ?_ hg0 (by simp)
    have := World.rowIs_alloc (w.alloc (Obj.cells #[Value.pointer (some { block := jb, off := 0 })] 30)) #[Value.slice none 0 0] 86 (fun _ => .slice none 0 0) (fun i hi => by simp at hi; subst hi; rfl)
    simpa using this
  rw [hN]
  have HSZ : Hid (w.heap.size = N) := hN
  have HMB : Hid (mb < N) := hN ▸ hmb
  clear hN hrg0 hg0 hs0 hj hj1 hj2 km hn HO hmb
  go_loopw [] (fun wr => Hid (IncR M Hd y w jb mb n D N wr)) (fun wr => wr.rangeLeft mb (N + 1 + 1))
  case atStart => exact HR
  case round =>
    obtain ⟨left, cnt, ks, v, H⟩ := hrel.out
    have HP : Hid (IncP M Hd y w jb mb n D N left cnt ks v wr) := H
    clear H hrel HR
    obtain ⟨i0, hi0, hz0, hz1, hz2⟩ := info_parts info78
    obtain ⟨j0, hj0, hjz0, hjz1, hjz2⟩ := info_parts info45
    obtain ⟨i3, hi3, h3z, h3s, h3b⟩ := info_parts info3
    go_wp2_with (first
      | (at_next; refine wpList_next_held wr rfl _ rfl mb (N + 1 + 1) n D left cnt rfl HP.out.rg HM.out HP.out.sub HJ.out.wf (fun hdone => ?_) (fun i w1 cnt' hi hli hrg' hlt hg1 hs1 hen => ?_)
         have HE : Hid (IncE M Hd y w jb N v ks.length ks wr) := HP.out.done HN.out hdone HSZ.out
         have kk0 := HE.out.kk
         clear hdone HP
         rotate_left
         have HX : Hid (left (klit (M i)) = true ∧ w1.ranges Try.prog 78 RP mb (N + 1 + 1) n D (fun z => left z && !z.sameKey (klit (M i))) cnt' ∧ cnt' < cnt ∧ wr.grownBy w1 (some (N + 1 + 1))) := ⟨hli, hrg', hlt, hg1⟩
         have HI : Hid (Hd i) := hi
         have HG1 : Hid (w.grownBy w1 none) := gb_later HP.out.gb hg1 (by have := HSZ.out; omega)
         clear hli hrg' hlt hg1 hs1 hi
         unfold keyV at hen
         unfold keyV
         rotate_left)
      | (go_at_call 39
         refine (sort29 HJ.out HE.out).mono ?_
         rintro e w2 ⟨rfl, HS⟩
         obtain ⟨ix, hS⟩ := HS.out
         obtain ⟨ka, kc, rfl, hkx⟩ := hS.keys
         have HS2 : Hid (IncS M Hd y w jb N (.slice ka ks.length kc) ks.length ix w2) := hS
         have kk2 := hS.kk
         have hL := hS.le
         clear HS hS HE kk0 hkx
         generalize ks.length = L at *
         clear ks)
      | (at_make
         refine wpList_make_full _ rfl _ _ 32 rfl w2.heap.size 45 j0 _ 9 Try.underlying32 hj0 hjz0 hjz1 _ _ _ _ L rfl rfl rfl rfl (by rw [hjz2]; omega) (by unfold maxLen; omega) (Nat.le_refl _) ?_
         intro w4 hown4 hg4
         obtain ⟨f4, hr4⟩ := row_of_owns hown4
         have HI4 : Hid (Inc2 M w jb N ka kc L ix w2.heap.size 0 w4) := Inc2.start HS2.out hg4 hr4
         have HEN : Hid (Enum (fun i => Hd i ∧ (M i).lat < y) L ix) := HS2.out.enum
         have kk4 := HI4.out.kk
         generalize w2.heap.size = lb at *
         clear hown4 hr4 f4 hg4 HS2 kk2 w2)
      | (go_at_call 32; refine (which32 (pb i) tb (M i).lat y _ ((gb_alloc HG1.out _).cell (HJ.out.held i HI.out).c4 (by simp)) ((gb_alloc HG1.out _).cell (HJ.out.held i HI.out).c5 (by simp)) ((gb_alloc HG1.out _).cell (HJ.out.held i HI.out).c6 (by simp)) ((gb_alloc HG1.out _).cell HD.out.1 (by simp)) ((gb_alloc HG1.out _).cell HD.out.2.1 (by simp)) ((gb_alloc HG1.out _).cell HD.out.2.2 (by simp))).mono ?_
         rintro e w3 ⟨rfl, HG3⟩
         clear hen
         have HG13 : Hid (w1.grownBy w3 none) := gb_trans (gb_alloc (gb_refl _ _) _) HG3.out
         have HK3 : wr.grownBy w3 (some (N + 1 + 1)) := gb_trans HX.out.2.2.2 (gb_but HG13.out _)
         have kk3 : w3.cell? ⟨N + 1, 0, none⟩ = some v := (rowIs_grown HP.out.row HK3 (by simp)).cell (i := 0) (by omega)
         have kz3 : w3.frozen? ⟨N + 1, 0, none⟩ = false := (rowIs_grown HP.out.row HK3 (by simp)).frozen 0
         have kb0 : w3.cell? ⟨w1.heap.size, 0, none⟩ = some (.string (M i).o) := HG3.out.cell (by simp) (by simp)
         have kb1 : w3.cell? ⟨w1.heap.size, 1, none⟩ = some (.int .i64 (M i).ref) := HG3.out.cell (by simp) (by simp)
         have kb2 : w3.cell? ⟨w1.heap.size, 2, none⟩ = some (.int .i64 (M i).tot) := HG3.out.cell (by simp) (by simp)
         have kb3 : w3.cell? ⟨w1.heap.size, 3, none⟩ = some (.int .u8 (M i).el) := HG3.out.cell (by simp) (by simp)
         have kb4 : w3.cell? ⟨w1.heap.size, 4, none⟩ = some (.int .u8 (M i).ty) := HG3.out.cell (by simp) (by simp)
         have HS3 : Hid (N + 3 ≤ w3.heap.size ∧ N + 1 < w3.heap.size ∧ w1.heap.size < w3.heap.size) := ⟨Nat.le_trans HP.out.size HK3.size, by have := HP.out.size; have := HK3.size; omega, by have := HG3.out.size; simp at this; omega⟩
         have hs3a : N + 1 < w3.heap.size := HS3.out.2.1
         have hs3b : w1.heap.size < w3.heap.size := HS3.out.2.2
         clear HK3 HG3
         by_cases hlat : (M i).lat < y
         all_goals first | rw [decide_eq_true hlat] | rw [decide_eq_false hlat])
      | (at_builtin
         refine wpList_append_own _ rfl _ _ 86 rfl (N + 3) 78 i0 _ 5 40 Try.underlying86 hi0 hz0 hz1 hz2 rfl (by omega) v ks.length (ks.flatMap (enc5 M)) rfl ((HP.out.own.kept (gb_trans HX.out.2.2.2 (gb_but HG13.out _)) HP.out.ne).alloc _) ⟨w3.heap.size, 0, none⟩ 1 1 (enc5 M ⟨i, HI.out⟩) rfl rfl (five_new ⟨i, HI.out⟩ w3) (five_one _) (by have := HP.out.le; have := HN.out; unfold maxLen; omega) (by have := HP.out.le; have := HN.out; omega) (by have := HS3.out.1; simp; omega) ?_
         intro v' w5 hown5 hg5 _
         obtain ⟨p', n', c', rfl⟩ := slice_of_owns hown5
         have R5 := HP.out.old HX.out.2.2.2 (gb_alloc HG13.out _) hg5
         have kk5 := R5.cell (i := 0) (by omega)
         have kz5 := R5.frozen 0
         have HG5 : Hid (IncP M Hd y w jb mb n D N (fun z => left z && !z.sameKey (klit (M i))) cnt' (ks ++ [⟨i, HI.out⟩]) (.slice p' n' c') (w5.setCell (⟨N + 1, 0, none⟩ : Addr) (.slice p' n' c'))) := HP.out.add HSZ.out HI.out HX.out.1 HX.out.2.1 HX.out.2.2.1 HX.out.2.2.2 (gb_alloc HG13.out _) hlat (fun j hj hne => HJ.out.ne j i hj HI.out hne) hg5 hown5 HMB.out
         clear kk3 kz3 kb0 kb1 kb2 kb3 kb4 hg5 hown5 R5))
    · clear kk4
      go_loopw [41] (fun i wr => ∃ t : Nat, t ≤ L ∧ i = .int .i64 t ∧ Hid (Inc2 M w jb N ka kc L ix lb t wr)) (fun i _ => L - (intOf i).toNat)
      case atStart => exact ⟨0, Nat.zero_le _, rfl, HI4.out⟩
      case round =>
        obtain ⟨t, ht, rfl, H2⟩ := hrel
        clear HI4
        by_cases hlt : t < L
        · obtain ⟨blk, rfl, _, k0, k1, k2, k3, k4⟩ := H2.out.keys t hlt
          have hi := HEN.out.mem t hlt
          have J := HJ.out.grown H2.out.gb
          obtain ⟨nn, DD, _, ho, hmap⟩ := J.own
          have hw := J.wf _ hi.1
          have hsn := J.sn _ hi.1
          have HHD := J.held _ hi.1
          have HLK : ∀ W, wr.grownBy W none → (Instr.lookup 52 (.map (some mb)) (keyV (M (ix t))) false).run Try.prog W = .ok (.pointer (some ⟨pb (ix t), 0, none⟩)) W := fun W g => look_held (ho.kept g (by simp)) hmap hi.1 hw
          have HMQ : Hid (Inc2 M w jb N (some ⟨blk, 0, none⟩) kc L ix lb t wr) := H2.out
          have kjN := H2.out.kj
          have kmj := J.km
          clear ho hmap hw H2 J hi
          obtain ⟨m, hmE⟩ : ∃ m, M (ix t) = m := ⟨_, rfl⟩
          obtain ⟨B, hBE⟩ : ∃ B, pb (ix t) = B := ⟨_, rfl⟩
          rw [hmE] at k0 k1 k2 k3 k4 hsn HHD HLK
          rw [hBE] at HHD HLK
          have HME : Hid (M (ix t) = m) := hmE
          have HH1 : Hid (Held1 wr B (ix t) m m.sn) := HHD
          clear hmE hBE HHD
          go_wp2_with fail
          obtain ⟨cs, hcs⟩ : ∃ cs : Array Value, #[.string m.o, .int .i64 m.ref, .int .i64 m.tot, .int .u8 m.el, .int .u8 m.ty] = cs := ⟨_, rfl⟩
          have b0 : (wr.alloc (.cells cs 78)).cell? ⟨wr.heap.size, 0, none⟩ = some (.string m.o) := by subst hcs; simp
          have b1 : (wr.alloc (.cells cs 78)).cell? ⟨wr.heap.size, 1, none⟩ = some (.int .i64 m.ref) := by subst hcs; simp
          have b2 : (wr.alloc (.cells cs 78)).cell? ⟨wr.heap.size, 2, none⟩ = some (.int .i64 m.tot) := by subst hcs; simp
          have b3 : (wr.alloc (.cells cs 78)).cell? ⟨wr.heap.size, 3, none⟩ = some (.int .u8 m.el) := by subst hcs; simp
          have b4 : (wr.alloc (.cells cs 78)).cell? ⟨wr.heap.size, 4, none⟩ = some (.int .u8 m.ty) := by subst hcs; simp
          have HGA : Hid (wr.grownBy (wr.alloc (.cells cs 78)) none) := gb_alloc (gb_refl _ _) _
          have a1 := HGA.out.cell kjN (by simp)
          have a2 := HGA.out.cell kmj (by simp)
          have a3 := HGA.out.cell HH1.out.c7 (by simp)
          have la : ∀ q, (Instr.lookup 52 (.map (some mb)) (.agg #[.string m.o, .int .i64 m.ref, .int .i64 m.tot, .int .u8 m.el, .int .u8 m.ty]) false).run Try.prog ((wr.alloc (.cells cs 78)).drewN q) = .ok (.pointer (some ⟨B, 0, none⟩)) ((wr.alloc (.cells cs 78)).drewN q) := fun q => HLK _ (gb_drewN HGA.out q)
          have HKB : Hid (wr.heap.size < (wr.alloc (.cells cs 78)).heap.size) := by show wr.heap.size < (wr.alloc (.cells cs 78)).heap.size; simp
          rw [hcs]
          clear hcs k0 k1 k2 k3 k4 kjN kmj HLK
          obtain ⟨kb, hkb⟩ : ∃ kb, wr.heap.size = kb := ⟨_, rfl⟩
          rw [hkb] at b0 b1 b2 b3 b4 HKB ⊢
          have HKW : Hid (wr.heap.size = kb) := hkb
          clear hkb
          generalize (wr.alloc (.cells cs 78)) = WA at *
          go_quiet (fail)
          go_wp2_with (first
            | (at_make
               refine wpList_make_full _ rfl _ _ 34 rfl WA.heap.size 3 i3 _ 1 Try.underlying34 hi3 h3z h3s _ _ _ _ m.sn rfl rfl rfl rfl (by rw [h3b]; omega) (by unfold maxLen; omega) (Nat.le_refl _) ?_
               intro w6 hown6 hg6
               obtain ⟨f6, hr6⟩ := row_of_owns hown6
               rw [Nat.mul_one] at hr6
               have HA6 : Hid (WA.grownBy w6 none) := gb_trans (gb_drewN (gb_refl _ _) nq) hg6
               have HR6 : Hid (w6.rowIs WA.heap.size 3 m.sn f6) := hr6
               have a6 := HA6.out.cell a3 (by simp)
               clear hown6 hr6 hg6 la a1 a2 a3
               generalize hhb : WA.heap.size = hb at *))
          have HHB : Hid (WA.heap.size = hb) := hhb
          have HB6 : Hid (wr.grownBy w6 none) := gb_trans HGA.out HA6.out
          have hBw : B + 1 < wr.heap.size := by obtain ⟨g, hg, _⟩ := HH1.out.rs; exact hg.lt
          have HBH : Hid (B + 1 < hb) := by have := HGA.out.size; have := HHB.out; show B + 1 < hb; omega
          clear hhb a6 hBw
          go_loopw [63] (fun i wi => ∃ k : Nat, k ≤ m.sn ∧ i = .int .i64 k ∧ Hid (∃ f, wi.rowIs hb 3 m.sn f ∧ (∀ s, s < k → f s = .int .i64 (m.q s)) ∧ w6.grownBy wi (some hb))) (fun i _ => m.sn - (intOf i).toNat)
          case atStart => exact ⟨0, Nat.zero_le _, rfl, f6, HR6.out, fun s hs => absurd hs (by omega), gb_refl _ _⟩
          case round =>
            obtain ⟨k, hk, rfl, HF⟩ := hrel
            obtain ⟨f, hf1, hf2, hf3⟩ := HF.out
            clear HF
            rename World => wi
            by_cases hks : k < m.sn
            · have HWI : Hid (wr.grownBy wi none) := gb_later HB6.out hf3 (by have := HGA.out.size; have := HHB.out; omega)
              obtain ⟨g, hg, hgI⟩ := HH1.out.rs
              have hgi := rowIs_grown hg HWI.out (by simp)
              have q0 := HWI.out.cell (HH1.out.qs k hks) (by simp)
              obtain ⟨n1, x1, g1⟩ := hgI (k * 8 + 1) (by omega)
              have q1 := hgi.cell (i := k * 8 + 1) (by omega)
              rw [g1] at q1
              obtain ⟨n2, x2, g2⟩ := hgI (k * 8 + 2) (by omega)
              have q2 := hgi.cell (i := k * 8 + 2) (by omega)
              rw [g2] at q2
              obtain ⟨n3, x3, g3⟩ := hgI (k * 8 + 3) (by omega)
              have q3 := hgi.cell (i := k * 8 + 3) (by omega)
              rw [g3] at q3
              obtain ⟨n4, x4, g4⟩ := hgI (k * 8 + 4) (by omega)
              have q4 := hgi.cell (i := k * 8 + 4) (by omega)
              rw [g4] at q4
              obtain ⟨n5, x5, g5⟩ := hgI (k * 8 + 5) (by omega)
              have q5 := hgi.cell (i := k * 8 + 5) (by omega)
              rw [g5] at q5
              obtain ⟨n6, x6, g6⟩ := hgI (k * 8 + 6) (by omega)
              have q6 := hgi.cell (i := k * 8 + 6) (by omega)
              rw [g6] at q6
              obtain ⟨n7, x7, g7⟩ := hgI (k * 8 + 7) (by omega)
              have q7 := hgi.cell (i := k * 8 + 7) (by omega)
              rw [g7] at q7
              have r0 := hf1.cell (i := k) hks
              have z0 := hf1.frozen k
              have hbl : hb < wi.heap.size := hf1.lt
              have HF : Hid (wi.rowIs hb 3 m.sn f ∧ (∀ s, s < k → f s = .int .i64 (m.q s)) ∧ w6.grownBy wi (some hb)) := ⟨hf1, hf2, hf3⟩
              clear hf1 hf2 hf3 hg hgi hgI g1 g2 g3 g4 g5 g6 g7
              go_wp2
              refine ⟨⟨k + 1, by omega, by simp, _, (HF.out.1.set k _).alloc _, fun s hs => ?_, gb_alloc (gb_setCell HF.out.2.2 (.inr rfl) _) _⟩, by simp [intOf]; omega⟩
              by_cases e : s = k
              · rw [if_pos e, e]
              · rw [if_neg e]; exact HF.out.2.1 s (by omega)
            · obtain rfl : k = m.sn := by omega
              have HWI : Hid (wr.grownBy wi none) := gb_later HB6.out hf3 (by have := HGA.out.size; have := HHB.out; omega)
              have HI2 : Hid (Inc2 M w jb N (some ⟨blk, 0, none⟩) kc L ix lb t wi) := HMQ.out.grown HWI.out
              obtain ⟨fl, hfl⟩ := HI2.out.row
              have hkne : some kb ≠ some hb := by have := HKB.out; simp; omega
              have y0 := hf3.cell (HA6.out.cell b0 (by simp)) hkne
              have y1 := hf3.cell (HA6.out.cell b1 (by simp)) hkne
              have y2 := hf3.cell (HA6.out.cell b2 (by simp)) hkne
              have y3 := hf3.cell (HA6.out.cell b3 (by simp)) hkne
              have y4 := hf3.cell (HA6.out.cell b4 (by simp)) hkne
              have y5 := HWI.out.cell HH1.out.c4 (by simp)
              have y6 := HWI.out.cell HH1.out.c5 (by simp)
              have y7 := HWI.out.cell HH1.out.c6 (by simp)
              have HQS : Hid (∀ s, s < m.sn → wi.cell? ⟨hb, s, none⟩ = some (.int .i64 (m.q s))) := fun s hs => by rw [hf1.cell hs, hf2 s hs]
              have l0 := hfl.cell (i := t * 9) (by omega)
              have l1 := hfl.cell (i := t * 9 + 1) (by omega)
              have l2 := hfl.cell (i := t * 9 + 2) (by omega)
              have l3 := hfl.cell (i := t * 9 + 3) (by omega)
              have l4 := hfl.cell (i := t * 9 + 4) (by omega)
              have l5 := hfl.cell (i := t * 9 + 5) (by omega)
              have l6 := hfl.cell (i := t * 9 + 6) (by omega)
              have l7 := hfl.cell (i := t * 9 + 7) (by omega)
              have l8 := hfl.cell (i := t * 9 + 8) (by omega)
              have z0 := hfl.frozen (t * 9)
              have z1 := hfl.frozen (t * 9 + 1)
              have z2 := hfl.frozen (t * 9 + 2)
              have z3 := hfl.frozen (t * 9 + 3)
              have z4 := hfl.frozen (t * 9 + 4)
              have z5 := hfl.frozen (t * 9 + 5)
              have z6 := hfl.frozen (t * 9 + 6)
              have z7 := hfl.frozen (t * 9 + 7)
              have z8 := hfl.frozen (t * 9 + 8)
              clear b0 b1 b2 b3 b4 hf1 hf2 hf3 hfl hks hk hkne
              have HQ : Hid (Inc2 M w jb N (some ⟨blk, 0, none⟩) kc L ix lb (t + 1) (set9 wi lb (t * 9) m hb).drew) := by
                have e := HME.out
                subst e
                refine (HI2.out.step hlt ?_ ?_ HQS.out).grown (gb_drew (gb_refl _ _))
                · have := HMQ.out.gb.size; have := HGA.out.size; have := HHB.out; omega
                · obtain ⟨f', hf'⟩ := HMQ.out.row
                  have := hf'.lt; have := HGA.out.size; have := HHB.out; omega
              go_wp2_with fail
              go_region
              all_goals (go_wp2; exact ⟨⟨t + 1, by omega, by simp, HQ.out⟩, by simp [intOf]; omega⟩)
        · obtain rfl : t = L := by omega
          go_wp2
          go_ret
          exact ⟨lb, t, t, ix, rfl, H2.out.out hL HEN.out⟩
    · refine ⟨⟨_, _, _, _, HG5.out⟩, ?_⟩
      rw [HG5.out.rg.left_eq, HP.out.rg.left_eq]
      exact HX.out.2.2.1
    · have HS5 := HP.out.skip HSZ.out HX.out.2.1 HX.out.2.2.1 HX.out.2.2.2 HG13.out (by omega) (fun j hj hne => HJ.out.ne j i hj HI.out hne)
      refine ⟨⟨_, _, _, _, HS5⟩, ?_⟩
      rw [HS5.rg.left_eq, HP.out.rg.left_eq]
      exact HX.out.2.2.1
end Go.Proofs.Qxb6613072a
