/-
  The contracts of AppendUint32 and zzs2436aput: four bytes onto a row of the call's own.
-/
import Derived.Test.YbulkaxksRows
import Derived.WalkKit
import Derived.Deep.AppendLies
set_option linter.unusedVariables false
set_option linter.unusedSimpArgs false
namespace Go.Proofs
open Go.RowKit

theorem Yba.info5 : (Yba.prog.info? 5).map (fun i => (i.zero, i.size, i.bytes)) = some (some (.int .u8 0), 1, 1) := by kernel_rfl

namespace Ybulkaxks

theorem grown_alloc {w w1 : World} {o : Obj} {row : Option Nat} (h : (w.alloc o).grownBy w1 row) : w.grownBy w1 row := by
  refine ⟨h.os, h.tape, h.output, ?_, fun k hk hr => ?_⟩
  · have := h.size; simp at this; omega
  · exact (h.block k (by simp; omega) hr).trans (Below.heap_alloc w o k hk)

theorem news_alloc (w : World) (cs : List Value) (t : TypeId) : ∀ j u, cs[j]? = some u → (w.alloc (.cells cs.toArray t)).cell? ((⟨w.heap.size, 0, none⟩ : Addr).add j) = some u :=
  World.news_of_block (cs := cs.toArray) (heap_alloc_new w _)

theorem ints_one (l : List Int) : ∀ u ∈ l.map (Value.int .u8), u.oneCell' = true := by
  intro u hu
  simp only [List.mem_map] at hu
  obtain ⟨c, _, rfl⟩ := hu
  rfl

/-- The four bytes of a number below 2^32. -/
def q32 (x : Int) : List Value := [.int .u8 (x / 16777216), .int .u8 (x / 65536 % 256), .int .u8 (x / 256 % 256), .int .u8 (x % 256)]

def App4 (w : World) (base : Nat) (v : Value) (n : Nat) (xs : List Value) (x : Int) (e : Ending) (w' : World) : Prop :=
  ∃ g cap, e = .returned (.slice (some ⟨g, 0, none⟩) (n + 4) cap) ∧ w'.ownsRow base 5 1 (.slice (some ⟨g, 0, none⟩) (n + 4) cap) (n + 4) (xs ++ q32 x) ∧
    w.grownBy w' v.ownBlock ∧ (v.ownBlock = some g ∨ w.heap.size ≤ g) ∧ g < w'.heap.size

set_option maxHeartbeats 400000 in
theorem put_any (base : Nat) (v : Value) (n : Nat) (xs : List Value) (x : Int) (w : World) (hown : w.ownsRow base 5 1 v n xs) (hn : n ≤ 1000000) (hbase : base ≤ w.heap.size) (x0 : 0 ≤ x) (x1 : x ≤ 4294967295) :
    Calls Yba.prog 5 #[v, .int .u32 x] w (App4 w base v n xs x) := by
  obtain ⟨i0, hi, hz0, hz1, hz2⟩ := info_parts Yba.info5
  have hnw := news_alloc w (q32 x) 5
  have hs : base ≤ w.heap.size + 1 := by omega
  go_enter Yba.func5, Yba.ntmps5
  go_wp2_with (at_builtin; refine wpList_append_lies _ rfl (.tmp 5) (.tmp 17) 22 rfl base 5 i0 (.int .u8 0) 1 1 Yba.underlying22 hi hz0 hz1 hz2 rfl (by decide) v n xs rfl (hown.alloc _) ⟨w.heap.size, 0, none⟩ 4 4 (q32 x) rfl rfl hnw (ints_one [_, _, _, _]) (by decide) (by unfold maxLen; omega) (by omega) (by simp; omega) (w.heap.size + 1) (by simp) ?_)
  intro g cap w1 ho hg hat hlt
  go_wp2
  go_ret
  exact ⟨g, cap, rfl, ho, grown_alloc hg, hat.imp id (fun h => by omega), hlt⟩

set_option maxHeartbeats 400000 in
theorem append_any (base : Nat) (v : Value) (n : Nat) (xs : List Value) (x : Int) (w : World) (hown : w.ownsRow base 5 1 v n xs) (hn : n ≤ 1000000) (hbase : base ≤ w.heap.size) (x0 : 0 ≤ x) (x1 : x ≤ 4294967295) :
    Calls Yba.prog 6 #[.agg #[], v, .int .u32 x] w (App4 w base v n xs x) := by
  obtain ⟨i0, hi, hz0, hz1, hz2⟩ := info_parts Yba.info5
  have hnw := news_alloc (w.alloc (.cells #[] 29)) (q32 x) 5
  rw [show (w.alloc (.cells #[] 29)).heap.size = w.heap.size + 1 by simp] at hnw
  have hs : base ≤ w.heap.size + 1 := by omega
  go_enter Yba.func6, Yba.ntmps6
  go_wp2_with (at_builtin; refine wpList_append_lies _ rfl (.tmp 7) (.tmp 19) 22 rfl base 5 i0 (.int .u8 0) 1 1 Yba.underlying22 hi hz0 hz1 hz2 rfl (by decide) v n xs rfl ((hown.alloc _).alloc _) ⟨w.heap.size + 1, 0, none⟩ 4 4 (q32 x) rfl rfl hnw (ints_one [_, _, _, _]) (by decide) (by unfold maxLen; omega) (by omega) (by simp; omega) (w.heap.size + 2) (by simp) ?_)
  intro g cap w1 ho hg hat hlt
  go_wp2
  go_ret
  exact ⟨g, cap, rfl, ho, grown_alloc (grown_alloc hg), hat.imp id (fun h => by omega), hlt⟩

end Ybulkaxks
end Go.Proofs
