/-
  A row of slices, each of them a row of its own.
-/
import Derived.Test.YbulkaxksFmtLay
set_option linter.unusedVariables false
set_option linter.unusedSimpArgs false
namespace Go.Proofs.YbulkaxksFmt
open Go.RowKit

def inner (vs : List Value) (ls : List (List Nat)) : List RowS := List.zipWith (fun v l => rowOf 3 v (ivs l)) vs ls
def nest (ov : Value) (vs : List Value) (ls : List (List Nat)) : List RowS := rowOf 27 ov vs :: inner vs ls

theorem inner_get {vs : List Value} {ls : List (List Nat)} {a : Nat} (h1 : a < vs.length) (h2 : a < ls.length) : (inner vs ls)[a]? = some (rowOf 3 vs[a] (ivs ls[a])) := by
  unfold inner
  rw [List.getElem?_zipWith, List.getElem?_eq_getElem h1, List.getElem?_eq_getElem h2]
theorem inner_set : ∀ (vs : List Value) (ls : List (List Nat)) (a : Nat) (v : Value) (l : List Nat), (inner vs ls).set a (rowOf 3 v (ivs l)) = inner (vs.set a v) (ls.set a l)
  | [], ls, a, v, l => by simp [inner]
  | _ :: _, [], a, v, l => by cases a <;> simp [inner]
  | x :: vs, y :: ls, 0, v, l => by simp [inner]
  | x :: vs, y :: ls, a + 1, v, l => by
    have := inner_set vs ls a v l
    simp only [inner, List.zipWith_cons_cons, List.set_cons_succ] at this ⊢
    rw [this]

theorem nest_nil {B : Nat} {w w1 : World} {L : List RowS} (h : Goes B w [] w1 L) : ∀ g, Goes B w [] w1 (inner (List.replicate g (.slice none 0 0)) (List.replicate g []) ++ L)
  | 0 => by simpa [inner] using h
  | g + 1 => by
    have := (nest_nil h g).nilRow 3
    simpa [inner, List.replicate_succ, ivs, rowOf] using this

/-- An inner row grows, and the outer row takes its new value. -/
theorem nest_step {B : Nat} {w w1 w2 : World} {L0 : List RowS} {ob oc a x : Nat} {vs : List Value} {ls : List (List Nat)} {v' : Value} {o : Obj} (h : Goes B w L0 w1 (nest (.slice (some ⟨ob, 0, none⟩) vs.length oc) vs ls)) (ha : a < vs.length) (hl : a < ls.length)
    (h1 : RowM w2 B 3 1 v' ((ivs ls[a]).length + 1) (ivs ls[a] ++ [iv x])) (h2 : (w1.alloc o).grownBy w2 vs[a].ownBlock) (h3 : v'.ownBlock = vs[a].ownBlock ∨ v'.ownBlock = some (w1.heap.size + 1)) (h4 : KeptUpTo (w1.alloc o) w2 vs[a].ownBlock (ivs ls[a]).length) :
    Goes B w L0 (w2.setCell ⟨ob, a, none⟩ v') (nest (.slice (some ⟨ob, 0, none⟩) (vs.set a v').length oc) (vs.set a v') (ls.set a (ls[a] ++ [x]))) := by
  have g1 := h.push (a + 1) (e := 3) (v := vs[a]) (xs := ivs ls[a]) (news := [iv x]) (by unfold nest; simpa using inner_get ha hl) rfl h1 h2 h3 h4
  have e : (nest (.slice (some ⟨ob, 0, none⟩) vs.length oc) vs ls).set (a + 1) (rowOf 3 v' (ivs ls[a] ++ [iv x])) = rowOf 27 (.slice (some ⟨ob, 0, none⟩) vs.length oc) vs :: inner (vs.set a v') (ls.set a (ls[a] ++ [x])) := by
    unfold nest
    rw [List.set_cons_succ]
    have : ivs ls[a] ++ [iv x] = ivs (ls[a] ++ [x]) := by simp [ivs]
    rw [this, inner_set]
  rw [e] at g1
  have g2 := g1.setAt 0 (e := 27) (g := ob) (n := vs.length) (cap := oc) (xs := vs) rfl (by decide) a v'
  rw [List.length_set]
  exact g2

theorem nest_cell {B : Nat} {w w1 : World} {ob oc a : Nat} {vs : List Value} {ls : List (List Nat)} (h : Goes B w [] w1 (nest (.slice (some ⟨ob, 0, none⟩) vs.length oc) vs ls)) (ha : a < vs.length) (hl : a < ls.length) :
    w1.cell? ⟨ob, a, none⟩ = some vs[a] ∧ w1.frozen? ⟨ob, a, none⟩ = false ∧ (∃ ao cap, vs[a] = .slice ao ls[a].length cap) ∧ RowM w1 B 3 1 vs[a] (ivs ls[a]).length (ivs ls[a]) ∧ some ob ≠ vs[a].ownBlock := by
  have c := h.cellAt 0 (e := 27) (g := ob) (n := vs.length) (cap := oc) (xs := vs) rfl a (List.getElem?_eq_getElem ha)
  have r : RowM w1 B 3 1 vs[a] (ivs ls[a]).length (ivs ls[a]) := h.rowAt (a + 1) (by unfold nest; simpa using inner_get ha hl)
  obtain ⟨ao, cap, hf⟩ := r.form
  refine ⟨c.1, c.2, ⟨ao, cap, by rw [hf, ivs_length]⟩, r, ?_⟩
  have hi : a + 1 < (nest (.slice (some ⟨ob, 0, none⟩) vs.length oc) vs ls).length := by simp [nest, inner]; omega
  rcases h.own.apart 0 (a + 1) (by simp [nest]) hi (by omega) with h' | h'
  · simp [nest, rowOf, Value.ownBlock] at h'
  · have e : ((nest (.slice (some ⟨ob, 0, none⟩) vs.length oc) vs ls)[a + 1]'hi).v = vs[a] := by
      have := List.getElem?_eq_getElem hi
      have h2 : (nest (.slice (some ⟨ob, 0, none⟩) vs.length oc) vs ls)[a + 1]? = some (rowOf 3 vs[a] (ivs ls[a])) := by unfold nest; simpa using inner_get ha hl
      rw [this] at h2
      injection h2 with h2
      rw [h2]; rfl
    rw [e] at h'
    exact h'

/-- What the finished rows say. -/
theorem nest_natss {B : Nat} {w w1 : World} {ob oc : Nat} {vs : List Value} {ls : List (List Nat)} (h : Goes B w [] w1 (nest (.slice (some ⟨ob, 0, none⟩) vs.length oc) vs ls)) (hl : vs.length = ls.length) : NatssAt w1 B (some ⟨ob, 0, none⟩) ls := by
  intro j hj
  obtain ⟨c, _, ⟨ao, cap, hf⟩, r, _⟩ := nest_cell h (by omega) hj
  rw [hf] at c r
  have hob : B ≤ ob := (RowM.lt (h.own.get 0 (r := rowOf 27 (.slice (some ⟨ob, 0, none⟩) vs.length oc) vs) rfl) ob rfl).1
  refine ⟨ob, ao, cap, rfl, hob, c, ?_, ?_, ?_, natsAt_row r⟩
  · rcases r.2 with ⟨e, h0⟩ | ⟨g, cap', cur, fr, e, _, _, _, hnc, hcm, _⟩
    · injection e with e1 e2 e3; omega
    · injection e with e1 e2 e3; subst e3; rw [ivs_length] at hnc; exact hnc
  · rcases r.2 with ⟨e, h0⟩ | ⟨g, cap', cur, fr, e, _, _, _, hnc, hcm, _⟩
    · injection e with e1 e2 e3; unfold maxLen; omega
    · injection e with e1 e2 e3; subst e3; exact hcm
  · intro ha
    rcases r.2 with ⟨e, h0⟩ | ⟨g, cap', cur, fr, e, _⟩
    · injection e with e1 e2 e3
    · injection e with e1 e2 e3; rw [ha] at e1; cases e1

theorem made_nil (g : Nat) : (madeCells (Value.slice none 0 0).cells (g * 1)).toList = List.replicate g (.slice none 0 0) := by
  apply List.ext_getElem
  · simp [size_madeCells]
  · intro i h1 h2
    simp [madeCells, Value.cells]
    rw [Nat.mod_one]; rfl
theorem made_zero (g : Nat) : (madeCells (Value.int .i64 0).cells (g * 1)).toList = List.replicate g (.int .i64 0) := by
  apply List.ext_getElem
  · simp [size_madeCells]
  · intro i h1 h2
    simp [madeCells, Value.cells]
    rw [Nat.mod_one]; rfl

end Go.Proofs.YbulkaxksFmt
