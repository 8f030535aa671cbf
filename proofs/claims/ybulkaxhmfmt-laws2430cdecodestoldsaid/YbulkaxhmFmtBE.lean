/-
  Contracts of package binary's big-endian functions.
-/
import Derived.Test.YbulkaxhmFmtOwn
import Derived.Deep.QuietTactic
import Derived.BigQuiet
import Derived.Lib.EndianBits
set_option linter.unusedVariables false
set_option linter.unusedSimpArgs false
namespace Go.Proofs.YbulkaxhmFmt
open Go.RowKit

theorem cell_old {w : World} {a : Addr} {v : Value} (h : w.cell? a = some v) : ∀ o, (w.alloc o).cell? a = some v := fun o =>
  (World.cell?_of_block (Below.heap_alloc w o a.block (World.block_lt_of_cell? w a h))).trans h

set_option maxHeartbeats 400000 in
theorem uint16_any (b o n cap : Nat) (x y : Int) (w : World) (hn : 2 ≤ n) (hx : w.cell? ⟨b, o, none⟩ = some (.int .u8 x)) (hy : w.cell? ⟨b, o + 1, none⟩ = some (.int .u8 y)) (x0 : 0 ≤ x) (x1 : x ≤ 255) (y0 : 0 ≤ y) (y1 : y ≤ 255) (hcap : n ≤ maxLen) :
    Calls Ybaf.prog 19 #[.agg #[], .slice (some ⟨b, o, none⟩) n cap] w fun e w' => e = .returned (.int .u16 (256 * x + y)) ∧ ∃ nq, (w.alloc (.cells #[] 63)).drewN nq = w' := by
  unfold maxLen at hcap
  have HB : Hid (bits BinOp.or IntKind.u16 y (x * 256) = 256 * x + y) := by
    have := u16_or8 (x := x * 256) (y := y) y0 (by omega) (by omega) (by omega) (by omega)
    show _ = _
    rw [this]; omega
  have hx' := cell_old hx
  have hy' := cell_old hy
  have hn1 : (1 : Int) < (n : Int) := by omega
  have hn0 : 0 < n := by omega
  go_enter Ybaf.func19, Ybaf.ntmps19
  go_wp2_with fail
  go_quiet (fail)
  go_wp2_with fail
  go_ret
  exact ⟨by rw [HB.out]; rfl, _, rfl⟩

/-- What an append onto the row 'v' (n bytes, 'xs') leaves. -/
def AppK (w : World) (base : Nat) (v : Value) (n : Nat) (xs : List Value) (m : Nat) (news : List Value) (v' : Value) (w' : World) : Prop :=
  RowM w' base 5 1 v' (n + m) (xs ++ news) ∧ w.grownBy w' v.ownBlock ∧ (v'.ownBlock = v.ownBlock ∨ ∃ k, v'.ownBlock = some k ∧ w.heap.size ≤ k) ∧ KeptUpTo w w' v.ownBlock n ∧ v'.ownBlock ≠ none

theorem kept_alloc {w w1 : World} {o : Obj} {row : Option Nat} {n : Nat} (h : KeptUpTo (w.alloc o) w1 row n) : KeptUpTo w w1 row n := fun a ha hr =>
  (h a (by simp; omega) hr).trans (World.cell?_of_block (Below.heap_alloc w o a.block ha))

theorem appK_of {w w1 : World} {o1 o2 : Obj} {base : Nat} {v v' : Value} {n m k : Nat} {xs news : List Value} (h1 : RowM w1 base 5 1 v' (n + m) (xs ++ news)) (h2 : ((w.alloc o1).alloc o2).grownBy w1 v.ownBlock)
    (h3 : v'.ownBlock = v.ownBlock ∨ v'.ownBlock = some k) (hk : w.heap.size ≤ k) (h4 : KeptUpTo ((w.alloc o1).alloc o2) w1 v.ownBlock n) (h5 : v'.ownBlock ≠ none) : AppK w base v n xs m news v' w1 :=
  ⟨h1, grown_alloc (grown_alloc h2), h3.elim .inl (fun h => .inr ⟨k, h, hk⟩), kept_alloc (kept_alloc h4), h5⟩

set_option maxHeartbeats 400000 in
theorem appendU16_any (base : Nat) (v : Value) (n : Nat) (xs : List Value) (x : Int) (w : World) (hown : RowM w base 5 1 v n xs) (hbase : base ≤ w.heap.size) (hn : n ≤ 1000000000) (x0 : 0 ≤ x) (x1 : x ≤ 65535) :
    Calls Ybaf.prog 18 #[.agg #[], v, .int .u16 x] w fun e w' => ∃ v', e = .returned v' ∧ AppK w base v n xs 2 [.int .u8 (x / 256), .int .u8 (x % 256)] v' w' := by
  obtain ⟨i5, hi5, hz50, hz51, hz52⟩ := info_parts Ybaf.info5
  have hsrc := Src.ofSlice (P := Ybaf.prog) (size := 1) ((w.alloc (.cells #[] 63)).alloc (.cells #[.int .u8 (x / 256), .int .u8 (x % 256)] 5)) Ybaf.underlying23 ⟨w.heap.size + 1, 0, none⟩ 2 2 [.int .u8 (x / 256), .int .u8 (x % 256)] rfl (by
    have := news_alloc (w.alloc (.cells #[] 63)) [.int .u8 (x / 256), .int .u8 (x % 256)] 5
    simpa using this) (ints_one [_, _])
  go_enter Ybaf.func18, Ybaf.ntmps18
  go_wp2_with (at_builtin; refine wpList_append_rowK _ rfl (.tmp 7) (.tmp 13) 23 23 rfl base 5 i5 (.int .u8 0) 1 1 Ybaf.underlying23 hi5 hz50 hz51 hz52 rfl v n xs rfl ((hown.alloc _).alloc _) _ 2 _ rfl hsrc (by unfold maxLen; omega) (by omega) (by simp; omega) ?_)
  intro v' w1 h1 h2 h3 h4 h5
  go_wp2
  go_ret
  exact ⟨v', rfl, appK_of h1 h2 h3 (by omega) h4 h5⟩

set_option maxHeartbeats 400000 in
theorem putU16_any (g o n cap : Nat) (x : Int) (u0 u1 : Value) (w : World) (hn : 2 ≤ n) (hcap : n ≤ maxLen) (h0 : w.cell? ⟨g, o, none⟩ = some u0) (h1 : w.cell? ⟨g, o + 1, none⟩ = some u1) (f0 : w.frozen? ⟨g, o, none⟩ = false) (f1 : w.frozen? ⟨g, o + 1, none⟩ = false) (x0 : 0 ≤ x) (x1 : x ≤ 65535) :
    Calls Ybaf.prog 17 #[.agg #[], .slice (some ⟨g, o, none⟩) n cap, .int .u16 x] w fun e w' => e = .returned (.tuple #[]) ∧ ((w.alloc (.cells #[] 63)).setCell ⟨g, o, none⟩ (.int .u8 (x / 256))).setCell ⟨g, o + 1, none⟩ (.int .u8 (x % 256)) = w' := by
  unfold maxLen at hcap
  have h0' := cell_old h0
  have h1' := cell_old h1
  have hlt := World.block_lt_of_cell? w _ h0
  have f0' : ∀ o', (w.alloc o').frozen? ⟨g, o, none⟩ = false := fun o' => (World.frozen?_of_block (Below.heap_alloc w o' g hlt)).trans f0
  have f1' : ∀ o', (w.alloc o').frozen? ⟨g, o + 1, none⟩ = false := fun o' => (World.frozen?_of_block (Below.heap_alloc w o' g hlt)).trans f1
  have hn1 : (1 : Int) < (n : Int) := by omega
  have hn0 : 0 < n := by omega
  go_enter Ybaf.func17, Ybaf.ntmps17
  go_wp2
  go_end0
  exact ⟨rfl, rfl⟩

end Go.Proofs.YbulkaxhmFmt
