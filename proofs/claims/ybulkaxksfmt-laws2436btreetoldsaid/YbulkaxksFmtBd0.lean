/-
  The law's builder: what it makes.
-/
import Derived.Test.YbulkaxksFmtShape
import Derived.Test.YbulkaxksFmtSm
set_option linter.unusedVariables false
set_option linter.unusedSimpArgs false
namespace Go.Proofs
open Go.RowKit
namespace YbulkaxksFmt

def szAt (zs : List Int) (i : Nat) : Nat := if h : i < zs.length then 1 + (zs[i] % 3).toNat else 1
def psOf (zs : List Int) (n : Nat) : List Nat := (List.range n).map (szAt zs)
theorem psOf_succ (zs : List Int) (n : Nat) : psOf zs (n + 1) = psOf zs n ++ [szAt zs n] := by
  unfold psOf
  rw [List.range_succ, List.map_append]
  rfl
theorem psOf_length (zs : List Int) (n : Nat) : (psOf zs n).length = n := by simp [psOf]
theorem szAt_le (zs : List Int) (i : Nat) : 1 ≤ szAt zs i ∧ szAt zs i ≤ 3 := by
  unfold szAt
  split
  · omega
  · omega
theorem psOf_sum (zs : List Int) : ∀ n, n ≤ (psOf zs n).sum ∧ (psOf zs n).sum ≤ 3 * n
  | 0 => by simp [psOf]
  | n + 1 => by
    have h1 := psOf_sum zs n
    have h2 := szAt_le zs n
    rw [psOf_succ, List.sum_append]
    simp only [List.sum_cons, List.sum_nil]
    omega

/-- The network's cells. -/
def nwXs (grv pv : Value) (all : Bool) (mv lv : Value) : List Value := [.string ⟨#[]⟩, .int .u8 0, grv, .map none, pv, .map none, .bool all, mv, lv]

/-- The builder's rows. -/
def BL (nb ib : Nat) (ins : List Value) (all : Bool) (mv lv gv grv pv : Value) (gl : List Nat) (n pn : Nat) (gxs : List Value) : List RowS :=
  [rowOf 3 gv (ivs gl), ⟨57, 3, grv, n, gxs⟩, ⟨9, 1, pv, pn, List.replicate pn (.string ⟨#[]⟩)⟩, box 55 nb (nwXs grv pv all mv lv), box 25 ib ins]

/-- The groups' cells. -/
def GrOk (ps : List Nat) (gxs : List Value) : Prop := gxs.length = ps.length * 3 ∧ ∀ j (hj : j < ps.length), gxs[j * 3]? = some (.string ⟨#[]⟩) ∧ gxs[j * 3 + 1]? = some (.string ⟨#[]⟩) ∧ ∃ pa pc, gxs[j * 3 + 2]? = some (.slice pa ps[j] pc)
theorem GrOk.snoc {ps : List Nat} {gxs : List Value} {p : Nat} {pa : Option Addr} {pc : Nat} (h : GrOk ps gxs) : GrOk (ps ++ [p]) (gxs ++ [.string ⟨#[]⟩, .string ⟨#[]⟩, .slice pa p pc]) := by
  obtain ⟨hl, h⟩ := h
  refine ⟨by simp [hl, Nat.add_mul], fun j hj => ?_⟩
  simp only [List.length_append, List.length_cons, List.length_nil] at hj
  rcases Nat.lt_or_ge j ps.length with hj' | hj'
  · obtain ⟨h1, h2, pa', pc', h3⟩ := h j hj'
    rw [List.getElem_append_left hj']
    refine ⟨?_, ?_, pa', pc', ?_⟩
    · rw [List.getElem?_append_left (by omega)]; exact h1
    · rw [List.getElem?_append_left (by omega)]; exact h2
    · rw [List.getElem?_append_left (by omega)]; exact h3
  · have hje : j = ps.length := by omega
    subst hje
    refine ⟨?_, ?_, pa, pc, ?_⟩
    · rw [List.getElem?_append_right (by omega), show ps.length * 3 - gxs.length = 0 by omega]; rfl
    · rw [List.getElem?_append_right (by omega), show ps.length * 3 + 1 - gxs.length = 1 by omega]; rfl
    · rw [List.getElem?_append_right (by omega), show ps.length * 3 + 2 - gxs.length = 2 by omega]; simp

/-- The groups that are made. -/
def BRel (B : Nat) (w : World) (nb ib : Nat) (ins : List Value) (zs : List Int) (i : Nat) (gl : List Nat) (gv : Value) (wr : World) : Prop :=
  ∃ grv pv gxs, GrOk (psOf zs i) gxs ∧ Goes B w [] wr (BL nb ib ins false (.map none) (.slice none 0 0) gv grv pv gl i (psOf zs i).sum gxs)
/-- The same, one more group made, its members not all told. -/
theorem groupL_snoc (ps : List Nat) (p : Nat) : groupL 0 (ps ++ [p]) = groupL 0 ps ++ List.replicate p ps.length := by
  rw [groupL_append]
  simp [groupL]
theorem zero_strings (m : Nat) : (Builtin.zeroCells (Value.string ⟨#[]⟩).cells m).toList = List.replicate m (.string ⟨#[]⟩) := by
  apply List.ext_getElem
  · simp [size_zeroCells, Value.cells]
  · intro i h1 h2
    simp [Builtin.zeroCells, Value.cells]
    rw [Nat.mod_one]; rfl

/-- What the builder gives. -/
def BuildPost (B : Nat) (w : World) (zs : List Int) (g : Nat) (all : Bool) (e : Ending) (w' : World) : Prop :=
  ∃ nb db dc ga gc prs deg, e = .returned (.tuple #[.pointer (some ⟨nb, 0, none⟩), .slice (some ⟨db, 0, none⟩) g dc, .slice ga (psOf zs g).sum gc]) ∧
    NetAt w' nb (psOf zs g) all prs ∧ deg.length = g ∧ NatsAt w' 0 (some ⟨db, 0, none⟩) deg ∧ NatsAt w' 0 ga (groupL 0 (psOf zs g)) ∧ Below B w w' ∧
    (∀ p ∈ prs, p.1 < g ∧ p.2 < g ∧ p.1 ≠ p.2) ∧ prs.length ≤ 6 ∧ (∀ a (ha : a < deg.length), deg[a] = degN (psOf zs g) all prs a) ∧ (∀ a, degN (psOf zs g) all prs a ≤ 12) ∧ fullN deg = fullB (psOf zs g) all prs

noncomputable def code5_17 : Code := (Ybaf.f5.body.bind (findFrom 17)).getD .skip
end YbulkaxksFmt
end Go.Proofs
