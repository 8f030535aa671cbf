/-
  Rows of one cell an element, and what the builder's steps make of them.
-/
import Derived.Test.YbulkaxhmFmtGoes
import Derived.Test.YbulkaxhmFmtPlainC
set_option linter.unusedVariables false
set_option linter.unusedSimpArgs false
namespace Go.Proofs
open Go.RowKit
theorem Ybaf.info59 : (Ybaf.prog.info? 59).map (fun i => (i.zero, i.size, i.bytes)) = some (some (.int .u16 0), 1, 2) := by kernel_rfl
theorem Ybaf.info28 : (Ybaf.prog.info? 28).map (fun i => (i.zero, i.size, i.bytes)) = some (some (.slice none 0 0), 1, 24) := by kernel_rfl
theorem Ybaf.info23c : (Ybaf.prog.info? 23).map (fun i => (i.zero, i.size, i.bytes)) = some (some (.slice none 0 0), 1, 24) := by kernel_rfl
namespace YbulkaxhmFmt

/-- A row of one-cell elements. -/
def rowOf (e : TypeId) (v : Value) (xs : List Value) : RowS := ⟨e, 1, v, xs.length, xs⟩

theorem row_nil (w : World) (B e : Nat) : (rowOf e (.slice none 0 0) []).at w B := ⟨rfl, .inl ⟨rfl, rfl⟩⟩

theorem Goes.nilRow {B : Nat} {w w1 : World} {L L1 : List RowS} (h : Goes B w L w1 L1) (e : TypeId) : Goes B w L w1 (rowOf e (.slice none 0 0) [] :: L1) :=
  h.cons (row_nil w1 B e) (World.grownBy.refl w1 none) (fun k hk => by simp [rowOf, Value.ownBlock] at hk)

theorem Goes.drew {B : Nat} {w w1 : World} {L L1 : List RowS} (h : Goes B w L w1 L1) : Goes B w L w1.drew L1 := h.grown ⟨rfl, rfl, rfl, Nat.le_refl _, fun _ _ _ => rfl⟩

/-- An append of new elements that lie in a block laid for them. -/
theorem Goes.push {B : Nat} {w w1 w2 : World} {L L1 : List RowS} {o : Obj} (h : Goes B w L w1 L1) (i : Nat) {e m : Nat} {v v' : Value} {xs news : List Value} (hr : L1[i]? = some (rowOf e v xs)) (hm : news.length = m)
    (h1 : RowM w2 B e 1 v' (xs.length + m) (xs ++ news)) (h2 : (w1.alloc o).grownBy w2 v.ownBlock) (h3 : v'.ownBlock = v.ownBlock ∨ v'.ownBlock = some (w1.heap.size + 1)) (h4 : KeptUpTo (w1.alloc o) w2 v.ownBlock xs.length) :
    Goes B w L w2 (L1.set i (rowOf e v' (xs ++ news))) := by
  subst hm
  refine h.row i hr ?_ (grown_alloc h2) ?_ rfl rfl (by simp [rowOf]) (fun he => kept_alloc h4)
  · unfold RowS.at rowOf
    simp only [List.length_append]
    exact h1
  · rcases h3 with h3 | h3
    · exact .inl h3
    · exact .inr ⟨_, h3, by omega⟩

/-- An append from a source that lies elsewhere. -/
theorem Goes.pushS {B : Nat} {w w1 w2 : World} {L L1 : List RowS} (h : Goes B w L w1 L1) (i : Nat) {e m : Nat} {v v' : Value} {xs news : List Value} (hr : L1[i]? = some (rowOf e v xs)) (hm : news.length = m)
    (h1 : RowM w2 B e 1 v' (xs.length + m) (xs ++ news)) (h2 : w1.grownBy w2 v.ownBlock) (h3 : v'.ownBlock = v.ownBlock ∨ v'.ownBlock = some w1.heap.size) (h4 : KeptUpTo w1 w2 v.ownBlock xs.length) :
    Goes B w L w2 (L1.set i (rowOf e v' (xs ++ news))) := by
  subst hm
  refine h.row i hr ?_ h2 ?_ rfl rfl (by simp [rowOf]) (fun he => h4)
  · unfold RowS.at rowOf
    simp only [List.length_append]
    exact h1
  · rcases h3 with h3 | h3
    · exact .inl h3
    · exact .inr ⟨_, h3, by omega⟩

/-- An append by a callee (AppendUint16). -/
theorem Goes.pushK {B : Nat} {w w1 w2 : World} {L L1 : List RowS} (h : Goes B w L w1 L1) (i : Nat) {m : Nat} {v v' : Value} {xs news : List Value} (hr : L1[i]? = some (rowOf 5 v xs)) (hm : news.length = m)
    (ha : AppK w1 B v xs.length xs m news v' w2) : Goes B w L w2 (L1.set i (rowOf 5 v' (xs ++ news))) := by
  obtain ⟨h1, h2, h3, h4, _⟩ := ha
  subst hm
  refine h.row i hr ?_ h2 h3 rfl rfl (by simp [rowOf]) (fun he => h4)
  unfold RowS.at rowOf
  simp only [List.length_append]
  exact h1

/-- The row of the list, for the append's law. -/
theorem Goes.rowAt {B : Nat} {w w1 : World} {L L1 : List RowS} (h : Goes B w L w1 L1) (i : Nat) {e : TypeId} {v : Value} {xs : List Value} (hr : L1[i]? = some (rowOf e v xs)) : RowM w1 B e 1 v xs.length xs := h.own.get i hr

/-- A store into a row. -/
theorem Goes.setAt {B : Nat} {w w1 : World} {L L1 : List RowS} (h : Goes B w L w1 L1) (i : Nat) {e g n cap : Nat} {xs : List Value} (hr : L1[i]? = some (rowOf e (.slice (some ⟨g, 0, none⟩) n cap) xs)) (he : e ≠ 9) (j : Nat) (u : Value) :
    Goes B w L (w1.setCell ⟨g, j, none⟩ u) (L1.set i (rowOf e (.slice (some ⟨g, 0, none⟩) n cap) (xs.set j u))) := by
  refine h.row i hr ?_ (grown_setCell w1 g j u) (.inl rfl) rfl rfl (by simp [rowOf]) (fun h => absurd h he)
  have hrow := h.own.get i hr
  rcases hrow.2 with ⟨h0, _⟩ | ⟨g', cap', cur, fr, hv, hb, hgg, hfr, hnc, hcm, hcs, htake⟩
  · simp [rowOf] at h0
  · simp only [rowOf, Value.slice.injEq, Option.some.injEq, Addr.mk.injEq] at hv
    obtain ⟨⟨rfl, _, _⟩, rfl, rfl⟩ := hv
    refine ⟨by simp [rowOf], .inr ⟨g, cap, cur.setIfInBounds j u, fr, by simp [rowOf], hb, setCell_heap w1 g j cur e fr u hgg, by simpa using hfr, by simpa [rowOf] using hnc, hcm, by simpa [rowOf] using hcs, ?_⟩⟩
    simp only [rowOf, Nat.mul_one] at htake ⊢
    rw [List.length_set, Array.toList_setIfInBounds, List.take_set, htake]

theorem Goes.cellAt {B : Nat} {w w1 : World} {L L1 : List RowS} (h : Goes B w L w1 L1) (i : Nat) {e g n cap : Nat} {xs : List Value} (hr : L1[i]? = some (rowOf e (.slice (some ⟨g, 0, none⟩) n cap) xs)) (j : Nat) {u : Value} (hu : xs[j]? = some u) :
    w1.cell? ⟨g, j, none⟩ = some u ∧ w1.frozen? ⟨g, j, none⟩ = false :=
  ⟨RowM.cells (h.own.get i hr) (g := g) rfl j u hu, RowM.unfrozen (h.own.get i hr) (g := g) rfl j (by have := (List.getElem?_eq_some_iff.1 hu).1; simpa [rowOf] using this)⟩

theorem bvs_be16 {x : Int} (h0 : 0 ≤ x) (h1 : x ≤ 65535) : [Value.int .u8 (x / 256), Value.int .u8 (x % 256)] = bvs (be16 x.toNat) := by
  simp only [bvs, be16, bv, List.map_cons, List.map_nil, List.cons.injEq, Value.int.injEq, true_and, and_true, UInt8.toNat_ofNat']
  omega

theorem bvs_eq (l : List UInt8) : bvs l = l.map (fun c => Value.int .u8 (c.toNat : Int)) := rfl

end YbulkaxhmFmt
end Go.Proofs
