/-
  readName: the root's name; a list of labels.
-/
import Derived.Test.YbulkaxhmFmtBuildKit
set_option linter.unusedVariables false
set_option linter.unusedSimpArgs false
namespace Go.Proofs.YbulkaxhmFmt
open Go.RowKit

theorem and192 (x : Nat) (h : x ≤ 63) : bits BinOp.and IntKind.i64 (x : Int) 192 = 0 := by
  have : ∀ y : Fin 64, bits BinOp.and IntKind.i64 ((y : Nat) : Int) 192 = 0 := by decide +kernel
  exact this ⟨x, by omega⟩

def RootPost (p n : Nat) (w : World) (e : Ending) (w' : World) : Prop :=
  (p < n ∧ e = .returned (.tuple #[.int .i64 ((p + 1 : Nat) : Int), .nilIface]) ∧ w = w') ∨
  (n ≤ p ∧ ∃ s, e = .returned (.tuple #[.int .i64 0, .iface 80 (.pointer (some ⟨w.heap.size, 0, none⟩))]) ∧ w.alloc (.cells #[.string s] 82) = w')

set_option maxHeartbeats 400000 in
theorem root_any (mg n cap p : Nat) (w : World) (hn : n ≤ 1000000000) (hp : p ≤ 1000000000) (hc : p < n → w.cell? ⟨mg, p, none⟩ = some (.int .u8 0)) :
    Calls Ybaf.prog 21 #[.slice (some ⟨mg, 0, none⟩) n cap, .int .i64 (p : Int), .nilFunc] w (RootPost p n w) := by
  by_cases h : p < n
  · have hc' := hc h
    clear hc
    have h2 : (p : Int) < (n : Int) := by omega
    go_enter Ybaf.func21, Ybaf.ntmps21
    go_wp2_with fail
    go_loopw [1, 8, 9, 10] (fun a b c d wr => a = .int .i64 (p : Int) ∧ b = .int .i64 1 ∧ c = .int .i64 (-1) ∧ d = .int .i64 0 ∧ w = wr) (fun _ _ _ _ _ => 0)
    case atStart => exact ⟨rfl, rfl, rfl, rfl, rfl⟩
    case round =>
      obtain ⟨rfl, rfl, rfl, rfl, rfl⟩ := hrel
      go_wp2
      go_ret2
      exact .inl ⟨h, rfl, rfl⟩
  · have h2 : (n : Int) ≤ (p : Int) := by omega
    clear hc
    go_enter Ybaf.func21, Ybaf.ntmps21
    go_wp2_with fail
    go_loopw [1, 8, 9, 10] (fun a b c d wr => a = .int .i64 (p : Int) ∧ b = .int .i64 1 ∧ c = .int .i64 (-1) ∧ d = .int .i64 0 ∧ w = wr) (fun _ _ _ _ _ => 0)
    case atStart => exact ⟨rfl, rfl, rfl, rfl, rfl⟩
    case round =>
      obtain ⟨rfl, rfl, rfl, rfl, rfl⟩ := hrel
      go_wp2_with (go_at_call 14; refine (errorsNew_any _ _).mono ?_; rintro e w1 ⟨rfl, rfl⟩)
      go_ret2
      exact .inr ⟨by omega, _, rfl, rfl⟩

theorem root_yes (mg n cap p : Nat) (w : World) (hn : n ≤ 1000000000) (hp : p ≤ 1000000000) (h : p < n) (hc : w.cell? ⟨mg, p, none⟩ = some (.int .u8 0)) :
    Calls Ybaf.prog 21 #[.slice (some ⟨mg, 0, none⟩) n cap, .int .i64 (p : Int), .nilFunc] w fun e w' => e = .returned (.tuple #[.int .i64 ((p + 1 : Nat) : Int), .nilIface]) ∧ w = w' := by
  refine (root_any mg n cap p w hn hp (fun _ => hc)).mono ?_
  rintro e w' (⟨_, h1, h2⟩ | ⟨h1, _⟩)
  · exact ⟨h1, h2⟩
  · omega

theorem root_no (mg n cap p : Nat) (w : World) (hn : n ≤ 1000000000) (hp : p ≤ 1000000000) (h : n ≤ p) :
    Calls Ybaf.prog 21 #[.slice (some ⟨mg, 0, none⟩) n cap, .int .i64 (p : Int), .nilFunc] w fun e w' => ∃ s, e = .returned (.tuple #[.int .i64 0, .iface 80 (.pointer (some ⟨w.heap.size, 0, none⟩))]) ∧ w.alloc (.cells #[.string s] 82) = w' := by
  refine (root_any mg n cap p w hn hp (fun h' => absurd h' (by omega))).mono ?_
  rintro e w' (⟨h1, _⟩ | ⟨_, h1⟩)
  · omega
  · exact h1

end Go.Proofs.YbulkaxhmFmt
