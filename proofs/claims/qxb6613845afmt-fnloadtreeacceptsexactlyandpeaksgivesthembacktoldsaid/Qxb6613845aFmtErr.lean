/- fmt.Errorf at the one format and the two operand types that the road comes to: an error that is not nil; nothing that lay has turned. -/
import Derived.Test.Qxb6613845aFmtBase
import Derived.Stop.CallBack
import Derived.Stop.IfaceNil
import Derived.WalkSpells
import GoSem.ClaimData
namespace Go.Proofs.Qxb6613845aFmt
open Go.RowKit Go.Extern.Stop Go.Stop Go.Extern

@[go_sem] theorem Tryf.call24 (args : Array Value) (w : World) : (callFunc 24 args).run Tryf.prog w = ((FmtStop.errorf #[9, 55] #[29] args).run Tryf.prog w).andThen fun v w' => .ok (.value v) w' :=
  run_callFunc_extern Tryf.func24 (by kernel_rfl) (by kernel_rfl) (by kernel_rfl) (by kernel_rfl) args w
@[go_sem] theorem Tryf.guard (name : String) (w : World) : (FmtStop.guard name).run Tryf.prog w = .ok () w := by kernel_rfl
@[go_sem] theorem Tryf.fmt0 : FmtStop.printed? ⟨#[97, 32, 116, 114, 101, 101, 32, 111, 102, 32, 37, 100, 32, 108, 101, 97, 118, 101, 115, 32, 99, 97, 110, 110, 111, 116, 32, 104, 97, 118, 101, 32, 37, 100, 32, 98, 121, 116, 101, 115, 32, 111, 102, 32, 112, 101, 97, 107, 115]⟩ 2 = some [(0, 100, false), (1, 100, false)] := by kernel_rfl
@[go_sem] theorem Tryf.fmt0r (w : World) : (FmtDoors.printed ⟨#[97, 32, 116, 114, 101, 101, 32, 111, 102, 32, 37, 100, 32, 108, 101, 97, 118, 101, 115, 32, 99, 97, 110, 110, 111, 116, 32, 104, 97, 118, 101, 32, 37, 100, 32, 98, 121, 116, 101, 115, 32, 111, 102, 32, 112, 101, 97, 107, 115]⟩ 2).run Tryf.prog w = .ok [(0, 100, false), (1, 100, false)] w := by kernel_rfl
def Tryf.shape2 : List UInt8 := [5, 5, 0, 0, 0, 0, 0, 0, 0, 105, 110, 116, 54, 52]
def Tryf.shape3 : List UInt8 := [5, 3, 0, 0, 0, 0, 0, 0, 0, 105, 110, 116]
@[go_sem] theorem Tryf.op3_100w (name : String) (x : Int) (w : World) : (FmtStop.operand name true 100 false (.iface 3 (.int .i64 x))).run Tryf.prog w = .ok (Tryf.shape3, Go.Extern.Stop.digits 8 (x % 2 ^ 64).toNat) w := by kernel_rfl
@[go_sem] theorem Tryf.op2_100w (name : String) (x : Int) (w : World) : (FmtStop.operand name true 100 false (.iface 2 (.int .i64 x))).run Tryf.prog w = .ok (Tryf.shape2, Go.Extern.Stop.digits 8 (x % 2 ^ 64).toNat) w := by kernel_rfl
@[go_sem] theorem Tryf.ptr65 (w : World) : (FmtStop.ptrTo "errors.errorString").run Tryf.prog w = .ok 65 w := by kernel_rfl
@[go_sem] theorem Tryf.elem65 (w : World) : (elemOf 65).run Tryf.prog w = .ok 67 w := by kernel_rfl

theorem errorf_runs (F : Interp) (z : Int) (m : Int) (b : Nat) (w : World) (hF : F.answers w.tape) (h0 : w.cell? ⟨b, 0, none⟩ = some (.iface 2 (.int .i64 z))) (h1 : w.cell? ⟨b, 1, none⟩ = some (.iface 3 (.int .i64 m))) :
    Calls Tryf.prog 18 #[.string ⟨#[97, 32, 116, 114, 101, 101, 32, 111, 102, 32, 37, 100, 32, 108, 101, 97, 118, 101, 115, 32, 99, 97, 110, 110, 111, 116, 32, 104, 97, 118, 101, 32, 37, 100, 32, 98, 121, 116, 101, 115, 32, 111, 102, 32, 112, 101, 97, 107, 115]⟩, .slice (some ⟨b, 0, none⟩) 2 2] w fun e w' => e = .returned (.iface 65 (.pointer (some ⟨w.heap.size, 0, none⟩))) ∧ w.grownBy w' none := by
  have hF' := answers_open hF
  go_enter Tryf.func18, Tryf.ntmps18
  go_wp2
  go_ret
  exact ⟨rfl, gb_drew (gb_alloc (gb_refl _ _) _)⟩
end Go.Proofs.Qxb6613845aFmt
