/-
  Closed facts over the stopped front of fmt, and the contracts of the small callees: errors.New, isDigit, fmt.Errorf.
-/
import Derived.Test.YbulkaxhmFmtRows
import Derived.WalkKit
import Derived.WalkSpells
import Derived.WalkLawsBesides
import Derived.Stop.CallBack
import Derived.Stop.IfaceNil
import GoSem.ClaimData
namespace Go.Proofs
open Go.Extern.Stop Go.Stop Go.Extern Go.RowKit

@[go_sem] theorem Ybaf.call25 (args : Array Value) (w : World) : (callFunc 25 args).run Ybaf.prog w = ((FmtStop.errorf #[9, 83] #[31] args).run Ybaf.prog w).andThen fun v w' => .ok (.value v) w' :=
  run_callFunc_extern Ybaf.func25 (by kernel_rfl) (by kernel_rfl) (by kernel_rfl) (by kernel_rfl) args w
@[go_sem] theorem Ybaf.guard (name : String) (w : World) : (FmtStop.guard name).run Ybaf.prog w = .ok () w := by kernel_rfl

-- "the escape \%s is not an octet"
def Ybaf.fEsc : ByteArray := ⟨#[116, 104, 101, 32, 101, 115, 99, 97, 112, 101, 32, 92, 37, 115, 32, 105, 115, 32, 110, 111, 116, 32, 97, 110, 32, 111, 99, 116, 101, 116]⟩
@[go_sem] theorem Ybaf.fmt0r (w : World) : (FmtDoors.printed ⟨#[116, 104, 101, 32, 101, 115, 99, 97, 112, 101, 32, 92, 37, 115, 32, 105, 115, 32, 110, 111, 116, 32, 97, 110, 32, 111, 99, 116, 101, 116]⟩ 1).run Ybaf.prog w = .ok [(0, 115, false)] w := by kernel_rfl
-- "a label longer than %d octets"
@[go_sem] theorem Ybaf.fmt1r (w : World) : (FmtDoors.printed ⟨#[97, 32, 108, 97, 98, 101, 108, 32, 108, 111, 110, 103, 101, 114, 32, 116, 104, 97, 110, 32, 37, 100, 32, 111, 99, 116, 101, 116, 115]⟩ 1).run Ybaf.prog w = .ok [(0, 100, false)] w := by kernel_rfl
-- "longer than %d octets"
@[go_sem] theorem Ybaf.fmt2r (w : World) : (FmtDoors.printed ⟨#[108, 111, 110, 103, 101, 114, 32, 116, 104, 97, 110, 32, 37, 100, 32, 111, 99, 116, 101, 116, 115]⟩ 1).run Ybaf.prog w = .ok [(0, 100, false)] w := by kernel_rfl

def Ybaf.shape9 : List UInt8 := [12, 6, 0, 0, 0, 0, 0, 0, 0, 115, 116, 114, 105, 110, 103]
def Ybaf.shape3 : List UInt8 := [5, 3, 0, 0, 0, 0, 0, 0, 0, 105, 110, 116]
@[go_sem] theorem Ybaf.op9_115w (name : String) (x : ByteArray) (w : World) : (FmtStop.operand name true 115 false (.iface 9 (.string x))).run Ybaf.prog w = .ok (Ybaf.shape9, FmtStop.pack x.data.toList) w := by kernel_rfl
@[go_sem] theorem Ybaf.op3_100w (name : String) (x : Int) (w : World) : (FmtStop.operand name true 100 false (.iface 3 (.int .i64 x))).run Ybaf.prog w = .ok (Ybaf.shape3, Go.Extern.Stop.digits 8 (x % 2 ^ 64).toNat) w := by kernel_rfl
@[go_sem] theorem Ybaf.ptr80 (w : World) : (FmtStop.ptrTo "errors.errorString").run Ybaf.prog w = .ok 80 w := by kernel_rfl
@[go_sem] theorem Ybaf.elem80 (w : World) : (elemOf 80).run Ybaf.prog w = .ok 82 w := by kernel_rfl
@[go_sem] theorem Ybaf.isError80' (w : World) : (FmtDoors.textMethod 80 "Error").run Ybaf.prog w = .ok true w := by kernel_rfl

namespace YbulkaxhmFmt

def digB (c : Int) : Bool := decide (48 ≤ c) && decide (c ≤ 57)
theorem digB_yes {c : Int} (h1 : 48 ≤ c) (h2 : c ≤ 57) : digB c = true := by simp [digB, h1, h2]
theorem digB_lo {c : Int} (h1 : c < 48) : digB c = false := by unfold digB; rw [decide_eq_false (by omega : ¬ 48 ≤ c)]; rfl
theorem digB_hi {c : Int} (h1 : 57 < c) : digB c = false := by unfold digB; rw [decide_eq_false (by omega : ¬ c ≤ 57)]; simp
theorem digB_iff {c : Int} : digB c = true ↔ 48 ≤ c ∧ c ≤ 57 := by simp [digB]

theorem isDigit_any (c : Int) (w : World) :
    Calls Ybaf.prog 15 #[.int .u8 c] w fun e w' => e = .returned (.bool (digB c)) ∧ w = w' := by
  by_cases h1 : 48 ≤ c
  · by_cases h2 : c ≤ 57
    · have hd := digB_yes h1 h2
      have H : Hid (digB c = true) := hd
      clear hd
      go_enter Ybaf.func15, Ybaf.ntmps15
      go_wp2
      go_ret
      exact ⟨by rw [H.out]; rfl, rfl⟩
    · have hd := digB_hi (by omega : 57 < c)
      have H : Hid (digB c = false) := hd
      clear hd
      go_enter Ybaf.func15, Ybaf.ntmps15
      go_wp2
      go_ret
      exact ⟨by rw [H.out]; rfl, rfl⟩
  · have hd := digB_lo (by omega : c < 48)
    have H : Hid (digB c = false) := hd
    clear hd
    go_enter Ybaf.func15, Ybaf.ntmps15
    go_wp2
    go_ret
    exact ⟨by rw [H.out]; rfl, rfl⟩

theorem errorsNew_any (s : ByteArray) (w : World) :
    Calls Ybaf.prog 14 #[.string s] w fun e w' => e = .returned (.iface 80 (.pointer (some ⟨w.heap.size, 0, none⟩))) ∧ w.alloc (.cells #[.string s] 82) = w' := by
  go_enter Ybaf.func14, Ybaf.ntmps14
  go_wp2
  go_ret
  exact ⟨rfl, rfl⟩

/-- What an error made by errors.New or fmt.Errorf (without a wrap) looks like. -/
def isErr (w : World) (v : Value) : Prop := ∃ a s, v = .iface 80 (.pointer (some a)) ∧ w.cell? a = some (.string s) ∧ a.block < w.heap.size
theorem isErr_new (w : World) (s : ByteArray) : isErr (w.alloc (.cells #[.string s] 82)).drew (.iface 80 (.pointer (some ⟨w.heap.size, 0, none⟩))) :=
  ⟨_, s, rfl, by simp, by simp⟩
theorem isErr_plain (w : World) (s : ByteArray) : isErr (w.alloc (.cells #[.string s] 82)) (.iface 80 (.pointer (some ⟨w.heap.size, 0, none⟩))) :=
  ⟨_, s, rfl, by simp, by simp⟩

theorem errorf_esc (F : Interp) (x : ByteArray) (b : Nat) (w : World) (hF : F.answers w.tape) (hc : w.cell? ⟨b, 0, none⟩ = some (.iface 9 (.string x))) :
    Calls Ybaf.prog 16 #[.string ⟨#[116, 104, 101, 32, 101, 115, 99, 97, 112, 101, 32, 92, 37, 115, 32, 105, 115, 32, 110, 111, 116, 32, 97, 110, 32, 111, 99, 116, 101, 116]⟩, .slice (some ⟨b, 0, none⟩) 1 1] w fun e w' => ∃ v, e = .returned v ∧ isErr w' v ∧ Below w.heap.size w w' := by
  have hF' := answers_open hF
  go_enter Ybaf.func16, Ybaf.ntmps16
  go_wp2
  go_ret
  exact ⟨.iface 80 (.pointer (some ⟨w.heap.size, 0, none⟩)), rfl, isErr_new _ _, ((Below.refl _ _).alloc (Nat.le_refl _) _).drew⟩

theorem errorf_lab (F : Interp) (x : Int) (b : Nat) (w : World) (hF : F.answers w.tape) (hc : w.cell? ⟨b, 0, none⟩ = some (.iface 3 (.int .i64 x))) :
    Calls Ybaf.prog 16 #[.string ⟨#[97, 32, 108, 97, 98, 101, 108, 32, 108, 111, 110, 103, 101, 114, 32, 116, 104, 97, 110, 32, 37, 100, 32, 111, 99, 116, 101, 116, 115]⟩, .slice (some ⟨b, 0, none⟩) 1 1] w fun e w' => ∃ v, e = .returned v ∧ isErr w' v ∧ Below w.heap.size w w' := by
  have hF' := answers_open hF
  go_enter Ybaf.func16, Ybaf.ntmps16
  go_wp2
  go_ret
  exact ⟨.iface 80 (.pointer (some ⟨w.heap.size, 0, none⟩)), rfl, isErr_new _ _, ((Below.refl _ _).alloc (Nat.le_refl _) _).drew⟩

theorem errorf_lon (F : Interp) (x : Int) (b : Nat) (w : World) (hF : F.answers w.tape) (hc : w.cell? ⟨b, 0, none⟩ = some (.iface 3 (.int .i64 x))) :
    Calls Ybaf.prog 16 #[.string ⟨#[108, 111, 110, 103, 101, 114, 32, 116, 104, 97, 110, 32, 37, 100, 32, 111, 99, 116, 101, 116, 115]⟩, .slice (some ⟨b, 0, none⟩) 1 1] w fun e w' => ∃ v, e = .returned v ∧ isErr w' v ∧ Below w.heap.size w w' := by
  have hF' := answers_open hF
  go_enter Ybaf.func16, Ybaf.ntmps16
  go_wp2
  go_ret
  exact ⟨.iface 80 (.pointer (some ⟨w.heap.size, 0, none⟩)), rfl, isErr_new _ _, ((Below.refl _ _).alloc (Nat.le_refl _) _).drew⟩

end YbulkaxhmFmt
end Go.Proofs
