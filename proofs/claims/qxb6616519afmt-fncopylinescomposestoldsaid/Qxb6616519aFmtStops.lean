/-
  fmt.Errorf at this dump: the closed facts, and its contract at the one format that is met.
-/
import Derived.Test.Qxb6616519aFmtBase
import Derived.WalkSpells
import Derived.Stop.CallBack
import Derived.Stop.IfaceNil
import GoSem.ClaimData
namespace Go.Proofs.Qxb6616519aFmt
set_option linter.unusedVariables false
open Go.RowKit Go.Extern.Stop Go.Stop Go.Extern
@[go_sem] theorem Tryf.call19 (args : Array Value) (w : World) : (callFunc 19 args).run Tryf.prog w = ((FmtStop.errorf #[9, 58] #[36] args).run Tryf.prog w).andThen fun v w' => .ok (.value v) w' :=
  run_callFunc_extern Tryf.func19 (by kernel_rfl) (by kernel_rfl) (by kernel_rfl) (by kernel_rfl) args w
@[go_sem] theorem Tryf.guard (name : String) (w : World) : (FmtStop.guard name).run Tryf.prog w = .ok () w := by kernel_rfl
@[go_sem] theorem Tryf.fmt0 : FmtStop.printed? { data := #[116, 104, 101, 32, 104, 105, 115, 116, 111, 114, 121, 32, 104, 97, 115, 32, 37, 100, 32, 108, 105, 110, 101, 115, 44, 32, 97, 110, 100, 32, 110, 111, 32, 108, 105, 110, 101, 32, 37, 100] } 2 = some [(0, 100, false), (1, 100, false)] := by kernel_rfl
@[go_sem] theorem Tryf.fmt0r (w : World) : (FmtDoors.printed { data := #[116, 104, 101, 32, 104, 105, 115, 116, 111, 114, 121, 32, 104, 97, 115, 32, 37, 100, 32, 108, 105, 110, 101, 115, 44, 32, 97, 110, 100, 32, 110, 111, 32, 108, 105, 110, 101, 32, 37, 100] } 2).run Tryf.prog w = .ok [(0, 100, false), (1, 100, false)] w := by kernel_rfl
def Tryf.shape3 : List UInt8 := [5, 3, 0, 0, 0, 0, 0, 0, 0, 105, 110, 116]
@[go_sem] theorem Tryf.op3_100 (name : String) (x : Int) (w : World) : (FmtStop.operand name false 100 false (.iface 3 (.int .i64 x))).run Tryf.prog w = .ok (Tryf.shape3, Go.Extern.Stop.digits 8 (x % 2 ^ 64).toNat) w := by kernel_rfl
@[go_sem] theorem Tryf.op3_100w (name : String) (x : Int) (w : World) : (FmtStop.operand name true 100 false (.iface 3 (.int .i64 x))).run Tryf.prog w = .ok (Tryf.shape3, Go.Extern.Stop.digits 8 (x % 2 ^ 64).toNat) w := by kernel_rfl
@[go_sem] theorem Tryf.ptr67 (w : World) : (FmtStop.ptrTo "errors.errorString").run Tryf.prog w = .ok 67 w := by kernel_rfl
@[go_sem] theorem Tryf.elem67 (w : World) : (elemOf 67).run Tryf.prog w = .ok 69 w := by kernel_rfl
@[go_sem] theorem Tryf.isError67' (w : World) : (FmtDoors.textMethod 67 "Error").run Tryf.prog w = .ok true w := by kernel_rfl
set_option maxHeartbeats 4000000 in
set_option maxRecDepth 100000 in
theorem errorf_two (F : Interp) (A : Nat) (x y : Int) (w : World) (hF : F.answers w.tape) (h0 : w.cell? ⟨A, 0, none⟩ = some (.iface 3 (.int .i64 x))) (h1 : w.cell? ⟨A, 1, none⟩ = some (.iface 3 (.int .i64 y))) :
    Calls Tryf.prog 15 #[.string { data := #[116, 104, 101, 32, 104, 105, 115, 116, 111, 114, 121, 32, 104, 97, 115, 32, 37, 100, 32, 108, 105, 110, 101, 115, 44, 32, 97, 110, 100, 32, 110, 111, 32, 108, 105, 110, 101, 32, 37, 100] }, .slice (some ⟨A, 0, none⟩) 2 2] w fun e w' => (∃ a, e = .returned (.iface 67 (.pointer (some a)))) ∧ Below w.heap.size w w' := by
  have hF' := answers_open hF
  go_enter Tryf.func15, Tryf.ntmps15
  go_wp2
  go_ret
  exact ⟨⟨_, rfl⟩, ((Below.refl _ w).alloc (Nat.le_refl _) _).drew⟩
end Go.Proofs.Qxb6616519aFmt
