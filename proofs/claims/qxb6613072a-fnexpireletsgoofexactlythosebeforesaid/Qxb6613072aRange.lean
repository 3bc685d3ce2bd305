/- Ranging over the map of held messages: the step. -/
import Derived.Test.Qxb6613072aLess
namespace Go.Proofs.Qxb6613072a
open Go.RowKit Go.Maps

theorem wpList_next_held {M : Nat → HM} {Hd : Nat → Prop} {pb : Nat → Nat} (w : World) {ops : Array Oper} {rest : List Oper} {o : Oper} {a : Act} {Q : Exit → Act → World → Prop} (hg : o.guard = none) (it : Operand) (hop : o.op = Op.next it false)
    (b r n : Nat) (D : DataW Unit) (left : Lit → Bool) (cnt : Nat) (hit : a.eval it = .pointer (some ⟨r, 0, none⟩)) (h : w.ranges Try.prog 78 RP b r n D left cnt) (hm : MapIs M Hd pb D) (hl : ∀ kl, left kl = true → Maps.has D kl = true) (hw : ∀ i, Hd i → (M i).Wf)
    (hDone : (∀ kl, left kl = false) → wpList Try.prog ops Q rest (a.put o.dst (.tuple #[.bool false])) w)
    (hMore : ∀ (i : Nat) (w' : World) (cnt' : Nat), Hd i → left (klit (M i)) = true → w'.ranges Try.prog 78 RP b r n D (fun z => left z && !z.sameKey (klit (M i))) cnt' → cnt' < cnt → w.grownBy w' (some r) → w'.heap.size = w.heap.size →
      (Instr.entry (.pointer (some ⟨r, 0, none⟩))).run Try.prog w' = .ok (.tuple #[keyV (M i), .pointer (some ⟨pb i, 0, none⟩)]) w' → wpList Try.prog ops Q rest (a.put o.dst (.tuple #[.bool true, keyV (M i), .pointer (some ⟨pb i, 0, none⟩)])) w') :
    wpList Try.prog ops Q (o :: rest) a w :=
  wpList_next_ranges w hg it hop 78 law RP (fun x : Value => x) (fun x : Value => x) (fun key _ _ => ⟨key, rfl⟩) (fun v _ _ => ⟨v, rfl⟩) b r n D left cnt hit h (fun _ h0 => hDone h0) (fun x c kl y w' cnt' hkey hlk hv hat hrg hlt hgr hsz hen => by
    obtain ⟨i, hi, rfl⟩ := hm.only kl (hl kl hlk)
    have ex : x = keyV (M i) := law.inj hkey (keyOf_mk (M i) (hw i hi))
    have ey : y.1 = .lit (.int .i64 (pb i)) := (hat .nil).symm.trans ((hm.all i hi).2 .nil)
    have ec : c = .pointer (some ⟨pb i, 0, none⟩) := RP_inv (ps := y.2) (by rw [hv, ← ey])
    subst ex ec
    exact hMore i w' cnt' hi hlk hrg hlt hgr hsz hen)
end Go.Proofs.Qxb6613072a
