/-
  fmt.Errorf at newMAPShape's format.
-/
import Derived.Test.YbulkaxksFmtCg
import Derived.Stop.CallBack
import Derived.Stop.IfaceNil
import GoSem.ClaimData
set_option linter.unusedVariables false
set_option linter.unusedSimpArgs false
namespace Go.Proofs
open Go.Extern.Stop Go.Stop Go.Extern Go.RowKit

@[go_sem] theorem Ybaf.call18 (args : Array Value) (w : World) : (callFunc 18 args).run Ybaf.prog w = ((FmtStop.errorf #[9, 73] #[33] args).run Ybaf.prog w).andThen fun v w' => .ok (.value v) w' :=
  run_callFunc_extern Ybaf.func18 (by kernel_rfl) (by kernel_rfl) (by kernel_rfl) (by kernel_rfl) args w
@[go_sem] theorem Ybaf.guard (name : String) (w : World) : (FmtStop.guard name).run Ybaf.prog w = .ok () w := by kernel_rfl
def Ybaf.shape3 : List UInt8 := [5, 3, 0, 0, 0, 0, 0, 0, 0, 105, 110, 116]
@[go_sem] theorem Ybaf.op3_100w (name : String) (x : Int) (w : World) : (FmtStop.operand name true 100 false (.iface 3 (.int .i64 x))).run Ybaf.prog w = .ok (Ybaf.shape3, Go.Extern.Stop.digits 8 (x % 2 ^ 64).toNat) w := by kernel_rfl
@[go_sem] theorem Ybaf.ptr84 (w : World) : (FmtStop.ptrTo "errors.errorString").run Ybaf.prog w = .ok 84 w := by kernel_rfl
@[go_sem] theorem Ybaf.elem84 (w : World) : (elemOf 84).run Ybaf.prog w = .ok 86 w := by kernel_rfl
@[go_sem] theorem Ybaf.isError84' (w : World) : (FmtDoors.textMethod 84 "Error").run Ybaf.prog w = .ok true w := by kernel_rfl

namespace YbulkaxksFmt

theorem errorf_map (F : Interp) (s : ByteArray) (hs : ∀ w, (FmtDoors.printed s 3).run Ybaf.prog w = .ok [(0, 100, false), (1, 100, false), (2, 100, false)] w) (x y z : Int) (b : Nat) (w : World) (hF : F.answers w.tape) (hc : w.cell? ⟨b, 0, none⟩ = some (.iface 3 (.int .i64 x))) (hd : w.cell? ⟨b, 1, none⟩ = some (.iface 3 (.int .i64 y))) (he : w.cell? ⟨b, 2, none⟩ = some (.iface 3 (.int .i64 z))) :
    Calls Ybaf.prog 15 #[.string s, .slice (some ⟨b, 0, none⟩) 3 3] w fun e w' => ∃ v, e = .returned v ∧ Below w.heap.size w w' := by
  have hF' := answers_open hF
  go_enter Ybaf.func15, Ybaf.ntmps15
  go_wp2
  go_ret
  exact ⟨_, rfl, ((Below.refl _ _).alloc (Nat.le_refl _) _).drew⟩

end YbulkaxksFmt
end Go.Proofs
