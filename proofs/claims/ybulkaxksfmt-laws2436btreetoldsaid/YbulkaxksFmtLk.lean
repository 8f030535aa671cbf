/-
  What the two laws share.
-/
import Derived.Test.YbulkaxksFmtBd
import Derived.Test.YbulkaxksFmtUd
set_option linter.unusedVariables false
set_option linter.unusedSimpArgs false
namespace Go.Proofs
open Go.Extern.Stop Go.Stop Go.Extern Go.RowKit
namespace YbulkaxksFmt

/-- The law's input, in its box. -/
def InBox (w : World) (ib : Nat) (l : List Value) : Prop := ∀ j v, l[j]? = some v → w.cell? ⟨ib, j, none⟩ = some v
theorem InBox.below {w w' : World} {ib : Nat} {l : List Value} (h : InBox w ib l) (hb : Below w.heap.size w w') : InBox w' ib l := fun j v hv => Below.cellK hb (h j v hv)
theorem InBox.new (w : World) (l : List Value) : InBox (w.alloc (.cells l.toArray 25)) w.heap.size l := fun j v hv => by
  have := news_alloc w l 25 j v hv
  rw [add_zero_off] at this
  exact this
theorem HealthsAt.below {w w' : World} (h : HealthsAt w) (hb : Below w.heap.size w w') : HealthsAt w' := fun n hn => by
  obtain ⟨s, h1, h2, h3⟩ := h n hn
  exact ⟨s, Below.cellK hb h1, Below.cellK hb h2, Below.cellK hb h3⟩
theorem below_drewN {B : Nat} {w w' : World} (h : Below B w w') (n : Nat) : Below B w (w'.drewN n) := ⟨h.os, h.tape, h.output, h.size, h.block⟩
theorem psOf_pos (zs : List Int) (g : Nat) (h : 1 ≤ g ∧ g ≤ 4) : 1 ≤ (psOf zs g).sum ∧ (psOf zs g).sum ≤ 12 := by
  have := psOf_sum zs g
  omega

end YbulkaxksFmt
end Go.Proofs
