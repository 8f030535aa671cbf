/-
  fmt.Errorf at the formats of Unpack.
-/
import Derived.Test.YbulkaxhmFmtBasic
set_option linter.unusedVariables false
set_option linter.unusedSimpArgs false
namespace Go.Proofs
open Go.Extern.Stop Go.Stop Go.Extern Go.RowKit

-- "question %d: %w"
@[go_sem] theorem Ybaf.fmtQw (w : World) : (FmtDoors.printed ⟨#[113, 117, 101, 115, 116, 105, 111, 110, 32, 37, 100, 58, 32, 37, 119]⟩ 2).run Ybaf.prog w = .ok [(0, 100, false), (1, 119, false)] w := by kernel_rfl
-- "question %d cut short"
@[go_sem] theorem Ybaf.fmtQc (w : World) : (FmtDoors.printed ⟨#[113, 117, 101, 115, 116, 105, 111, 110, 32, 37, 100, 32, 99, 117, 116, 32, 115, 104, 111, 114, 116]⟩ 1).run Ybaf.prog w = .ok [(0, 100, false)] w := by kernel_rfl
-- "record %d: %w"
@[go_sem] theorem Ybaf.fmtRw (w : World) : (FmtDoors.printed ⟨#[114, 101, 99, 111, 114, 100, 32, 37, 100, 58, 32, 37, 119]⟩ 2).run Ybaf.prog w = .ok [(0, 100, false), (1, 119, false)] w := by kernel_rfl
@[go_sem] theorem Ybaf.ptr84 (w : World) : (FmtStop.ptrTo "fmt.wrapError").run Ybaf.prog w = .ok 84 w := by kernel_rfl
@[go_sem] theorem Ybaf.elem84 (w : World) : (elemOf 84).run Ybaf.prog w = .ok 102 w := by kernel_rfl

def Ybaf.shape80 : List UInt8 := [14, 19, 0, 0, 0, 0, 0, 0, 0, 42, 101, 114, 114, 111, 114, 115, 46, 101, 114, 114, 111, 114, 83, 116, 114, 105, 110, 103]
theorem Ybaf.op80_open (name : String) (a : Addr) (w : World) : (FmtStop.operand name true 119 false (.iface 80 (.pointer (some a)))).run Ybaf.prog w =
    (load a >>= fun v => match v with | .string s => pure (Ybaf.shape80, s.data.toList) | _ => stuck "fmt: the first field of a plain error is a string" : Sem (List UInt8 × List UInt8)).run Ybaf.prog w := by kernel_rfl
@[go_sem] theorem Ybaf.op80_119w (name : String) (a : Addr) (s : ByteArray) (w : World) (h : w.cell? a = some (.string s)) : (FmtStop.operand name true 119 false (.iface 80 (.pointer (some a)))).run Ybaf.prog w = .ok (Ybaf.shape80, s.data.toList) w := by
  rw [Ybaf.op80_open]
  simp [go_sem, h]

namespace YbulkaxhmFmt

theorem errorf_qw (F : Interp) (x : Int) (b eb : Nat) (s : ByteArray) (w : World) (hF : F.answers w.tape) (hc : w.cell? ⟨b, 0, none⟩ = some (.iface 3 (.int .i64 x))) (hd : w.cell? ⟨b, 1, none⟩ = some (.iface 80 (.pointer (some ⟨eb, 0, none⟩)))) (he : w.cell? ⟨eb, 0, none⟩ = some (.string s)) :
    Calls Ybaf.prog 16 #[.string ⟨#[113, 117, 101, 115, 116, 105, 111, 110, 32, 37, 100, 58, 32, 37, 119]⟩, .slice (some ⟨b, 0, none⟩) 2 2] w fun e w' => ∃ v, e = .returned (.iface 84 v) ∧ Below w.heap.size w w' := by
  have hF' := answers_open hF
  have ho := fun name => Ybaf.op80_119w name ⟨eb, 0, none⟩ s w he
  go_enter Ybaf.func16, Ybaf.ntmps16
  go_wp2
  go_ret
  exact ⟨_, rfl, ((Below.refl _ _).alloc (Nat.le_refl _) _).drew⟩

theorem errorf_rw (F : Interp) (x : Int) (b eb : Nat) (s : ByteArray) (w : World) (hF : F.answers w.tape) (hc : w.cell? ⟨b, 0, none⟩ = some (.iface 3 (.int .i64 x))) (hd : w.cell? ⟨b, 1, none⟩ = some (.iface 80 (.pointer (some ⟨eb, 0, none⟩)))) (he : w.cell? ⟨eb, 0, none⟩ = some (.string s)) :
    Calls Ybaf.prog 16 #[.string ⟨#[114, 101, 99, 111, 114, 100, 32, 37, 100, 58, 32, 37, 119]⟩, .slice (some ⟨b, 0, none⟩) 2 2] w fun e w' => ∃ v, e = .returned (.iface 84 v) ∧ Below w.heap.size w w' := by
  have hF' := answers_open hF
  have ho := fun name => Ybaf.op80_119w name ⟨eb, 0, none⟩ s w he
  go_enter Ybaf.func16, Ybaf.ntmps16
  go_wp2
  go_ret
  exact ⟨_, rfl, ((Below.refl _ _).alloc (Nat.le_refl _) _).drew⟩

theorem errorf_qc (F : Interp) (x : Int) (b : Nat) (w : World) (hF : F.answers w.tape) (hc : w.cell? ⟨b, 0, none⟩ = some (.iface 3 (.int .i64 x))) :
    Calls Ybaf.prog 16 #[.string ⟨#[113, 117, 101, 115, 116, 105, 111, 110, 32, 37, 100, 32, 99, 117, 116, 32, 115, 104, 111, 114, 116]⟩, .slice (some ⟨b, 0, none⟩) 1 1] w fun e w' => ∃ v, e = .returned (.iface 80 v) ∧ Below w.heap.size w w' := by
  have hF' := answers_open hF
  go_enter Ybaf.func16, Ybaf.ntmps16
  go_wp2
  go_ret
  exact ⟨_, rfl, ((Below.refl _ _).alloc (Nat.le_refl _) _).drew⟩

end YbulkaxhmFmt
end Go.Proofs
