/- A region that draws its order of evaluation, by an invariant over WHICH operations have run: each operation is walked once. -/
import Derived.Test.Qxb6613072aSub
import Derived.Orders
namespace Go.Proofs.Qxb6613072a
open Go.RowKit

theorem getD_some {L : Array Bool} {i : Nat} (h : L.getD i true = false) : i < L.size ∧ L[i]? = some false := by
  rcases Nat.lt_or_ge i L.size with h' | h'
  · simp [h'] at h; exact ⟨h', by simp [h', h]⟩
  · simp [Array.getD, Nat.not_lt.2 h'] at h

theorem count_set_true {L : Array Bool} {i : Nat} (h : L[i]? = some false) : (L.setIfInBounds i true).toList.count false + 1 = L.toList.count false := by
  obtain ⟨hi, hv⟩ := Array.getElem?_eq_some_iff.1 h
  rw [Array.toList_setIfInBounds, List.count_set (by simpa using hi)]
  have hm : false ∈ L.toList := by rw [← hv]; simp
  have hp := List.count_pos_iff.2 hm
  have e : L.toList[i]'(by simpa using hi) = false := by simpa using hv
  rw [e, if_pos (by decide), if_neg (by decide)]
  omega

variable {P : Program} {ops : Array Oper} {Q : Exit → Act → World → Prop} {md : Region.Mode}

theorem all_listed {L : Array Bool} (hsz : L.size = ops.size) (hord : ∀ (j : Nat) (o : Oper), ops[j]? = some o → ∀ e ∈ o.after, e.on < j) (hr : Region.ready md ops L = []) : ∀ i, i < ops.size → L[i]? = some true := by
  intro i
  induction i using Nat.strongRecOn with
  | ind i ih =>
    intro hi
    cases hv : L[i]? with
    | none => simp at hv; omega
    | some b =>
      cases b with
      | true => rfl
      | false =>
        have : i ∈ Region.ready md ops L := by
          refine mem_ready.2 ⟨by simp [hv], ops[i], by simp [hi], fun e he _ => ?_⟩
          have h1 := hord i ops[i] (by simp [hi]) e he
          have := ih e.on h1 (by omega)
          simp [this]
        rw [hr] at this
        cases this

theorem wpAny_inv (Inv : Array Bool → Act → World → Prop) (hsz : ∀ L a w, Inv L a w → L.size = ops.size) (hord : ∀ (j : Nat) (o : Oper), ops[j]? = some o → ∀ e ∈ o.after, e.on < j)
    (hs : ∀ L a w, Inv L a w → ∀ i, i ∈ Region.ready md ops L → wpOp P ops Q i (fun a' w' => Inv (L.setIfInBounds i true) a' w') a w)
    (hd : ∀ L a w, Inv L a w → (∀ i, i < ops.size → L[i]? = some true) → Q .normal a w) :
    ∀ (fuel : Nat) L a w, Inv L a w → L.toList.count false ≤ fuel → wpAny P md ops Q fuel L a w
  | 0, L, a, w, h, hc => by
    have hr : Region.ready md ops L = [] := by
      cases hq : Region.ready md ops L with
      | nil => rfl
      | cons i r =>
        have hi : i ∈ Region.ready md ops L := by rw [hq]; simp
        obtain ⟨hlt, hv⟩ := getD_some (mem_ready.1 hi).1
        have := count_set_true hv
        omega
    exact ⟨hr, hd L a w h (all_listed (hsz L a w h) hord hr)⟩
  | fuel + 1, L, a, w, h, hc => by
    refine ⟨fun hr => hd L a w h (all_listed (hsz L a w h) hord hr), fun i hi => ?_⟩
    refine wpOp_mono (fun a' w' h' => wpAny_inv Inv hsz hord hs hd fuel _ _ _ h' ?_) (hs L a w h i hi)
    have := count_set_true (getD_some (mem_ready.1 hi).1).2
    omega

theorem wpOp_val {i : Nat} {K : Act → World → Prop} {a : Act} {w w' : World} {o : Oper} {v : Value} (ho : ops[i]? = some o) (hg : o.guard = none)
    (hrun : (execOp a.eval o).run P w = .ok (.value v) w') (h : K (a.put o.dst v) w') : wpOp P ops Q i K a w := by
  unfold wpOp
  rw [ho]
  simp only [Region.wanted, hg, if_true]
  refine Or.inl ?_
  unfold Oper.wp
  rw [hrun]
  exact h
theorem wpOp_skip {i : Nat} {K : Act → World → Prop} {a : Act} {w w' : World} {o : Oper} (ho : ops[i]? = some o) (hg : o.guard = none)
    (hrun : (execOp a.eval o).run P w = .ok .skip w') (h : K (a.put o.dst undef) w') : wpOp P ops Q i K a w := by
  unfold wpOp
  rw [ho]
  simp only [Region.wanted, hg, if_true]
  refine Or.inl ?_
  unfold Oper.wp
  rw [hrun]
  exact h
theorem wpOp_call {i : Nat} {K : Act → World → Prop} {a : Act} {w w' : World} {o : Oper} {f : FuncId} {args : Array Value} (ho : ops[i]? = some o) (hg : o.guard = none)
    (hrun : (execOp a.eval o).run P w = .ok (.enter f args) w') (h : Calls P f args w' fun e w'' => ∃ v, e = .returned v ∧ K (a.put o.dst v) w'') : wpOp P ops Q i K a w := by
  unfold wpOp
  rw [ho]
  simp only [Region.wanted, hg, if_true]
  refine Or.inl ?_
  unfold Oper.wp
  rw [hrun]
  refine h.mono ?_
  rintro e w'' ⟨v, rfl, hv⟩
  exact hv

theorem ordered {ops : Array Oper} (h : ((List.range ops.size).all fun j => match ops[j]? with | some o => o.after.all fun e => decide (e.on < j) | none => true) = true) : ∀ (j : Nat) (o : Oper), ops[j]? = some o → ∀ e ∈ o.after, e.on < j := by
  intro j o ho e he
  have hj := (Array.getElem?_eq_some_iff.1 ho).1
  have := List.all_eq_true.1 h j (List.mem_range.2 hj)
  simp only [ho] at this
  have := Array.all_eq_true_iff_forall_mem.1 this e he
  simpa using this

theorem wpList_storeAt {P : Program} (w w' : World) {ops : Array Oper} {rest : List Oper} {o : Oper} {a : Act} {Q : Exit → Act → World → Prop} (hg : o.guard = none) (x y : Operand) (t : TypeId) (hop : o.op = Op.store t x y)
    (hrun : (Instr.storeAt t (a.eval x) (a.eval y)).run P w = .ok () w') (hd : o.dst = none) (h : wpList P ops Q rest a w') : wpList P ops Q (o :: rest) a w := by
  refine wpList_plain hg fun K hK' => ?_
  unfold Oper.wp
  simp [execOp, hop, hrun, Result.andThen]
  refine hK' _ _ ?_
  rw [hd]; exact h
end Go.Proofs.Qxb6613072a
