/- The law, walked: it returns true at every size and every slice of bytes. -/
import Derived.Test.Qxb6613845aFmtRefuse
import Derived.Test.Qxb6613845aFmtLoad
import Derived.Laws.CopyOwn
namespace Go.Proofs.Qxb6613845aFmt
open Go.RowKit Go.Extern.Stop Go.Stop Go.Extern

/-- n bytes as values -/
def bytesL (C : Nat → Int) (n : Nat) : List Value := (List.range n).map fun j => Value.int .u8 (C j)
theorem bytesL_len (C : Nat → Int) (n : Nat) : (bytesL C n).length = n := by simp [bytesL]
theorem bytesL_one (C : Nat → Int) (n : Nat) : ∀ u ∈ bytesL C n, u.oneCell' = true := by
  intro u hu
  simp only [bytesL, List.mem_map] at hu
  obtain ⟨j, _, rfl⟩ := hu
  rfl
theorem bytesL_src {w : World} {ad : Addr} {n : Nat} {C : Nat → Int} (h : Bys w (some ad) n C) : ∀ j v, (bytesL C n)[j]? = some v → w.cell? (ad.add j) = some v := by
  intro j v hv
  have hj : j < n := by
    have := (List.getElem?_eq_some_iff.1 hv).1
    rwa [bytesL_len] at this
  obtain ⟨ad', e, hc⟩ := h j hj
  cases e
  rw [hc, ← hv]
  simp [bytesL, hj]
theorem copied {w : World} {g n : Nat} {cur : List Value} {C : Nat → Int} (hl : cur.length = n) (h : w.heap[g]? = some (.cells (splice cur 0 (bytesL C n)).toArray 5 (0, 0))) : Bys w (some ⟨g, 0, none⟩) n C := by
  intro i hi
  refine ⟨_, rfl, ?_⟩
  rw [add_new, cell_of_row _ _ i _ 5 (0, 0) h]
  have e : splice cur 0 (bytesL C n) = bytesL C n := by
    unfold splice
    rw [bytesL_len, List.drop_of_length_le (by omega)]
    simp
  rw [e]
  simp [bytesL, hi]
theorem made_cur {w1 : World} {B n : Nat} {xs : List Value} (h : w1.ownsRow B 5 1 (.slice (some ⟨B, 0, none⟩) n n) n xs) : ∃ cur : List Value, cur.length = n ∧ w1.heap[B]? = some (.cells cur.toArray 5 (0, 0)) := by
  obtain ⟨_, hrow⟩ := h
  rcases hrow with ⟨h, _⟩ | ⟨g, c', cur, hv, _, hblk, _, _, hsz, _⟩
  · cases h
  · obtain ⟨rfl, rfl⟩ : B = g ∧ n = c' := by simpa using hv
    exact ⟨cur.toList, by simpa using hsz, by simpa using hblk⟩

theorem Tryf.size5 : (Tryf.prog.info? 5).map (·.size) = some 1 := by kernel_rfl

set_option maxRecDepth 100000 in
set_option maxHeartbeats 1000000 in
theorem law_nil_neg (F : Interp) (z : Int) (hz : z < 0) (w : World) (hF : F.answers w.tape) :
    Calls Tryf.prog 3 #[.int .i64 z, .slice none 0 0] w fun e w' => e = .returned (.bool true) ∧ w.grownBy w' none := by
  have HF : Hid (F.answers w.tape) := hF
  clear hF
  have hnil := fun w => Lib.run_eql_slice_nil (P := Tryf.prog) w 22 5 none 0 0 0 0 Tryf.underlying22
  have hd : decide (0 ≤ z) = false := by simp; omega
  go_enter Tryf.func3, Tryf.ntmps3
  go_wp2_with (first | (go_at_call 5; refine (zzBytes_runs _ none 0 0 (by omega) _).mono ?_; rintro e w' ⟨rfl, hw⟩; obtain rfl := hw.symm) | (go_at_call 6; refine (zzCopy_runs none 0 0 (fun _ => 0) (by omega) _ (fun i hi => absurd hi (by omega))).mono ?_; rintro e w3 ⟨rfl, H3⟩; have hF3 : Hid (F.answers w3.tape) := by (show F.answers w3.tape); rw [H3.out.2.tape]; exact HF.out) | (go_at_call 8; refine (refuse_neg F z hz none 0 0 _ (by exact hF3.out)).mono ?_; rintro e w4 ⟨pe, rfl, H4⟩))
  go_ret
  exact ⟨rfl, gb_trans H3.out.2 H4.out⟩

set_option maxRecDepth 100000 in
set_option maxHeartbeats 1000000 in
theorem law_nil_len (F : Interp) (x : Nat) (hx : x < 9223372036854775808) (hne : 0 ≠ ones 64 x * 32) (w : World) (hF : F.answers w.tape) :
    Calls Tryf.prog 3 #[.int .i64 (x : Int), .slice none 0 0] w fun e w' => e = .returned (.bool true) ∧ w.grownBy w' none := by
  have HF : Hid (F.answers w.tape) := hF
  clear hF
  have hnil := fun w => Lib.run_eql_slice_nil (P := Tryf.prog) w 22 5 none 0 0 0 0 Tryf.underlying22
  have hload := fun W hF => refuse_len F x hx none 0 0 hne W hF
  have hones := fun W => zzOnes_runs x (by omega) W
  have ho := ones_le 64 x
  generalize ones 64 x = m at *
  have hb : ((0 : Int) == (m : Int) * 32) = false := by rw [beq_eq_false_iff_ne]; omega
  have hd : decide (0 ≤ (x : Int)) = true := by simp
  go_enter Tryf.func3, Tryf.ntmps3
  go_wp2_with (first | (go_at_call 5; refine (zzBytes_runs _ none 0 0 (by omega) _).mono ?_; rintro e w' ⟨rfl, hw⟩; obtain rfl := hw.symm) | (go_at_call 6; refine (zzCopy_runs none 0 0 (fun _ => 0) (by omega) _ (fun i hi => absurd hi (by omega))).mono ?_; rintro e w3 ⟨rfl, H3⟩; have hF3 : Hid (F.answers w3.tape) := by (show F.answers w3.tape); rw [H3.out.2.tape]; exact HF.out) | (go_at_call 7; refine (hones _).mono ?_; rintro e w' ⟨rfl, hw⟩; obtain rfl := hw.symm) | (go_at_call 8; refine (hload _ (by exact hF3.out)).mono ?_; rintro e w4 ⟨pe, rfl, H4⟩))
  go_ret
  exact ⟨rfl, gb_trans H3.out.2 H4.out⟩

set_option maxRecDepth 100000 in
set_option maxHeartbeats 1000000 in
theorem law_nil_ok (F : Interp) (x : Nat) (hx : x < 9223372036854775808) (he : 0 = ones 64 x * 32) (w : World) (hF : F.answers w.tape) :
    Calls Tryf.prog 3 #[.int .i64 (x : Int), .slice none 0 0] w fun e w' => e = .returned (.bool true) ∧ w.grownBy w' none := by
  have HF : Hid (F.answers w.tape) := hF
  clear hF
  have hnil := fun w => Lib.run_eql_slice_nil (P := Tryf.prog) w 22 5 none 0 0 0 0 Tryf.underlying22
  have hones := fun W => zzOnes_runs x (by omega) W
  have ho := ones_le 64 x
  have hload := fun b W hb hS => load_in x hx _ rfl none b (fun h => absurd h (by omega)) (fun _ => 0) W hb hS
  generalize ones 64 x = m at *
  obtain rfl : m = 0 := by omega
  clear he
  have hd : decide (0 ≤ (x : Int)) = true := by simp
  go_enter Tryf.func3, Tryf.ntmps3
  go_wp2_with (first | (go_at_call 5; refine (zzBytes_runs _ none 0 0 (by omega) _).mono ?_; rintro e w' ⟨rfl, hw⟩; obtain rfl := hw.symm) | (go_at_call 6; refine (zzCopy_runs none 0 0 (fun _ => 0) (by omega) _ (fun i hi => absurd hi (by omega))).mono ?_; rintro e w3 ⟨rfl, H3⟩; have hF3 : Hid (F.answers w3.tape) := by (show F.answers w3.tape); rw [H3.out.2.tape]; exact HF.out) | (go_at_call 7; refine (hones _).mono ?_; rintro e w' ⟨rfl, hw⟩; obtain rfl := hw.symm) | (go_at_call 8; refine (callsIn_wide.1 (hload w.heap.size _ (fun h => absurd h (by omega)) (fun i hi => absurd hi (by omega)))).mono ?_; rintro e w4 ⟨tb, a', cap', rfl, hc4, H4⟩) | (go_at_call 10; refine (peaks_runs tb a' 0 cap' (fun _ => 0) (by omega) _ hc4 H4.out.1).mono ?_; rintro e w5 ⟨rfl, H5⟩) | (go_at_call 9; refine (zzBytesEqual_runs _ _ 0 _ _ (fun _ => 0) (by omega) _ H5.out.1 ((H3.out.1.grown H4.out.2).grown H5.out.2)).mono ?_; rintro e w6 ⟨rfl, q6, rfl⟩))
  go_ret
  exact ⟨rfl, gb_drewN (gb_trans (gb_trans H3.out.2 H4.out.2) H5.out.2) q6⟩

set_option maxRecDepth 100000 in
set_option maxHeartbeats 1000000 in
theorem law_some_neg (F : Interp) (z : Int) (hz : z < 0) (ad : Addr) (n cap : Nat) (C : Nat → Int) (hn : n ≤ 1048576) (w : World) (hF : F.answers w.tape) (hS : Bys w (some ad) n C) :
    Calls Tryf.prog 3 #[.int .i64 z, .slice (some ad) n cap] w fun e w' => e = .returned (.bool true) ∧ w.grownBy w' none := by
  have HF : Hid (F.answers w.tape) := hF
  clear hF
  have HS : Hid (Bys w (some ad) n C) := hS
  clear hS
  obtain ⟨i0, hi, hz0, hz1, hz2⟩ := info_parts Tryf.info5
  have hnil := fun w => Lib.run_eql_slice_nil (P := Tryf.prog) w 22 5 (some ad) n cap 0 0 Tryf.underlying22
  have hd : decide (0 ≤ z) = false := by simp; omega
  go_enter Tryf.func3, Tryf.ntmps3
  go_wp2_with (first | (go_at_call 5; refine (zzBytes_runs _ _ n cap hn _).mono ?_; rintro e w' ⟨rfl, hw⟩; obtain rfl := hw.symm) | (at_make; refine wpList_make_full _ rfl _ _ 22 rfl w.heap.size 5 i0 _ 1 Tryf.underlying22 hi hz0 hz1 _ _ _ _ n rfl rfl rfl rfl (by rw [hz2]; omega) (by unfold maxLen; omega) (Nat.le_refl _) ?_; intro w1 hown hgrow; obtain ⟨cur, hcl, hcur⟩ := made_cur hown; have HC : Hid (cur.length = n ∧ w1.heap[w.heap.size]? = some (.cells cur.toArray 5 (0, 0))) := ⟨hcl, hcur⟩; have HG1 : Hid (w.grownBy w1 none) := hgrow; clear hown hgrow hcl hcur) | (refine wpList_copy_splice rfl _ _ 22 22 rfl 5 Tryf.underlying22 Tryf.size5 _ _ _ _ _ _ rfl rfl w.heap.size 0 cur 5 HC.out.2 (bytesL C n) (by rw [bytesL_len]; exact (Nat.min_self _).symm) (fun _ => ⟨rfl, _, rfl, bytesL_src (HS.out.grown HG1.out)⟩) (by rw [bytesL_len, HC.out.1]; omega) (bytesL_one C n) w.heap.size w (gb_below HG1.out) (Nat.le_refl _) ?_; intro w2 hcp hb2; have HB : Hid (Bys w2 (some ⟨w.heap.size, 0, none⟩) n C) := copied HC.out.1 hcp.out; have HG2 : Hid (w.grownBy w2 none) := below_gb hb2; have HL2 : Hid (w.heap.size < w2.heap.size) := (Array.getElem?_eq_some_iff.1 hcp.out).1; clear hcp hb2) | (go_at_call 6; refine (zzCopy_runs (some ⟨w.heap.size, 0, none⟩) n n C hn _ HB.out).mono ?_; rintro e w3 ⟨rfl, H3⟩; have hF3 : Hid (F.answers w3.tape) := by (show F.answers w3.tape); rw [H3.out.2.tape, HG2.out.tape]; exact HF.out) | (go_at_call 8; refine (refuse_neg F z hz (some ⟨w.heap.size, 0, none⟩) n n _ (by exact hF3.out)).mono ?_; rintro e w4 ⟨pe, rfl, H4⟩))
  go_ret
  exact ⟨rfl, gb_trans (gb_trans HG2.out H3.out.2) H4.out⟩

set_option maxRecDepth 100000 in
set_option maxHeartbeats 1000000 in
theorem law_some_len (F : Interp) (x : Nat) (hx : x < 9223372036854775808) (ad : Addr) (n cap : Nat) (C : Nat → Int) (hn : n ≤ 1048576) (hne : n ≠ ones 64 x * 32) (w : World) (hF : F.answers w.tape) (hS : Bys w (some ad) n C) :
    Calls Tryf.prog 3 #[.int .i64 (x : Int), .slice (some ad) n cap] w fun e w' => e = .returned (.bool true) ∧ w.grownBy w' none := by
  have HF : Hid (F.answers w.tape) := hF
  clear hF
  have HS : Hid (Bys w (some ad) n C) := hS
  clear hS
  obtain ⟨i0, hi, hz0, hz1, hz2⟩ := info_parts Tryf.info5
  have hnil := fun w => Lib.run_eql_slice_nil (P := Tryf.prog) w 22 5 (some ad) n cap 0 0 Tryf.underlying22
  have hload := fun W hF => refuse_len F x hx (some ⟨w.heap.size, 0, none⟩) n n hne W hF
  have hones := fun W => zzOnes_runs x (by omega) W
  have ho := ones_le 64 x
  generalize ones 64 x = m at *
  have hb : ((n : Int) == (m : Int) * 32) = false := by rw [beq_eq_false_iff_ne]; omega
  have hd : decide (0 ≤ (x : Int)) = true := by simp
  go_enter Tryf.func3, Tryf.ntmps3
  go_wp2_with (first | (go_at_call 5; refine (zzBytes_runs _ _ n cap hn _).mono ?_; rintro e w' ⟨rfl, hw⟩; obtain rfl := hw.symm) | (at_make; refine wpList_make_full _ rfl _ _ 22 rfl w.heap.size 5 i0 _ 1 Tryf.underlying22 hi hz0 hz1 _ _ _ _ n rfl rfl rfl rfl (by rw [hz2]; omega) (by unfold maxLen; omega) (Nat.le_refl _) ?_; intro w1 hown hgrow; obtain ⟨cur, hcl, hcur⟩ := made_cur hown; have HC : Hid (cur.length = n ∧ w1.heap[w.heap.size]? = some (.cells cur.toArray 5 (0, 0))) := ⟨hcl, hcur⟩; have HG1 : Hid (w.grownBy w1 none) := hgrow; clear hown hgrow hcl hcur) | (refine wpList_copy_splice rfl _ _ 22 22 rfl 5 Tryf.underlying22 Tryf.size5 _ _ _ _ _ _ rfl rfl w.heap.size 0 cur 5 HC.out.2 (bytesL C n) (by rw [bytesL_len]; exact (Nat.min_self _).symm) (fun _ => ⟨rfl, _, rfl, bytesL_src (HS.out.grown HG1.out)⟩) (by rw [bytesL_len, HC.out.1]; omega) (bytesL_one C n) w.heap.size w (gb_below HG1.out) (Nat.le_refl _) ?_; intro w2 hcp hb2; have HB : Hid (Bys w2 (some ⟨w.heap.size, 0, none⟩) n C) := copied HC.out.1 hcp.out; have HG2 : Hid (w.grownBy w2 none) := below_gb hb2; have HL2 : Hid (w.heap.size < w2.heap.size) := (Array.getElem?_eq_some_iff.1 hcp.out).1; clear hcp hb2) | (go_at_call 6; refine (zzCopy_runs (some ⟨w.heap.size, 0, none⟩) n n C hn _ HB.out).mono ?_; rintro e w3 ⟨rfl, H3⟩; have hF3 : Hid (F.answers w3.tape) := by (show F.answers w3.tape); rw [H3.out.2.tape, HG2.out.tape]; exact HF.out) | (go_at_call 7; refine (hones _).mono ?_; rintro e w' ⟨rfl, hw⟩; obtain rfl := hw.symm) | (go_at_call 8; refine (hload _ (by exact hF3.out)).mono ?_; rintro e w4 ⟨pe, rfl, H4⟩))
  go_ret
  exact ⟨rfl, gb_trans (gb_trans HG2.out H3.out.2) H4.out⟩

set_option maxRecDepth 100000 in
set_option maxHeartbeats 1000000 in
theorem law_some_ok (F : Interp) (x : Nat) (hx : x < 9223372036854775808) (ad : Addr) (n cap : Nat) (C : Nat → Int) (hn : n ≤ 1048576) (he : n = ones 64 x * 32) (w : World) (hF : F.answers w.tape) (hS : Bys w (some ad) n C) :
    Calls Tryf.prog 3 #[.int .i64 (x : Int), .slice (some ad) n cap] w fun e w' => e = .returned (.bool true) ∧ w.grownBy w' none := by
  have HF : Hid (F.answers w.tape) := hF
  clear hF
  have HS : Hid (Bys w (some ad) n C) := hS
  clear hS
  obtain ⟨i0, hi, hz0, hz1, hz2⟩ := info_parts Tryf.info5
  have hnil := fun w => Lib.run_eql_slice_nil (P := Tryf.prog) w 22 5 (some ad) n cap 0 0 Tryf.underlying22
  have hones := fun W => zzOnes_runs x (by omega) W
  have ho := ones_le 64 x
  have hload := fun b W hb hS => load_in x hx _ rfl (some ⟨b, 0, none⟩) b (fun _ => rfl) C W hb hS
  generalize ones 64 x = m at *
  subst he
  have hd : decide (0 ≤ (x : Int)) = true := by simp
  go_enter Tryf.func3, Tryf.ntmps3
  go_wp2_with (first | (go_at_call 5; refine (zzBytes_runs _ _ (m * 32) cap hn _).mono ?_; rintro e w' ⟨rfl, hw⟩; obtain rfl := hw.symm) | (at_make; refine wpList_make_full _ rfl _ _ 22 rfl w.heap.size 5 i0 _ 1 Tryf.underlying22 hi hz0 hz1 _ _ _ _ (m * 32) rfl rfl rfl rfl (by rw [hz2]; omega) (by unfold maxLen; omega) (Nat.le_refl _) ?_; intro w1 hown hgrow; obtain ⟨cur, hcl, hcur⟩ := made_cur hown; have HC : Hid (cur.length = m * 32 ∧ w1.heap[w.heap.size]? = some (.cells cur.toArray 5 (0, 0))) := ⟨hcl, hcur⟩; have HG1 : Hid (w.grownBy w1 none) := hgrow; clear hown hgrow hcl hcur) | (refine wpList_copy_splice rfl _ _ 22 22 rfl 5 Tryf.underlying22 Tryf.size5 _ _ _ _ _ _ rfl rfl w.heap.size 0 cur 5 HC.out.2 (bytesL C (m * 32)) (by rw [bytesL_len]; exact (Nat.min_self _).symm) (fun _ => ⟨rfl, _, rfl, bytesL_src (HS.out.grown HG1.out)⟩) (by rw [bytesL_len, HC.out.1]; omega) (bytesL_one C (m * 32)) w.heap.size w (gb_below HG1.out) (Nat.le_refl _) ?_; intro w2 hcp hb2; have HB : Hid (Bys w2 (some ⟨w.heap.size, 0, none⟩) (m * 32) C) := copied HC.out.1 hcp.out; have HG2 : Hid (w.grownBy w2 none) := below_gb hb2; have HL2 : Hid (w.heap.size < w2.heap.size) := (Array.getElem?_eq_some_iff.1 hcp.out).1; clear hcp hb2) | (go_at_call 6; refine (zzCopy_runs (some ⟨w.heap.size, 0, none⟩) (m * 32) (m * 32) C hn _ HB.out).mono ?_; rintro e w3 ⟨rfl, H3⟩; have hF3 : Hid (F.answers w3.tape) := by (show F.answers w3.tape); rw [H3.out.2.tape, HG2.out.tape]; exact HF.out) | (go_at_call 7; refine (hones _).mono ?_; rintro e w' ⟨rfl, hw⟩; obtain rfl := hw.symm) | (go_at_call 8; refine (callsIn_wide.1 (hload w.heap.size _ (fun _ => Nat.lt_of_lt_of_le HL2.out H3.out.2.size) (HB.out.grown H3.out.2))).mono ?_; rintro e w4 ⟨tb, a', cap', rfl, hc4, H4⟩) | (go_at_call 10; refine (peaks_runs tb a' m cap' C (by omega) _ hc4 H4.out.1).mono ?_; rintro e w5 ⟨rfl, H5⟩) | (go_at_call 9; refine (zzBytesEqual_runs _ _ (m * 32) _ _ C (by omega) _ H5.out.1 ((H3.out.1.grown H4.out.2).grown H5.out.2)).mono ?_; rintro e w6 ⟨rfl, q6, rfl⟩))
  go_ret
  exact ⟨rfl, gb_drewN (gb_trans (gb_trans (gb_trans HG2.out H3.out.2) H4.out.2) H5.out.2) q6⟩

end Go.Proofs.Qxb6613845aFmt
