/-
  The rows of newMAPShape's tree: what its loops keep.
-/
import Derived.Test.YbulkaxksFmtErr
set_option linter.unusedVariables false
set_option linter.unusedSimpArgs false
namespace Go.Proofs.YbulkaxksFmt
open Go.RowKit

def i32s (l : List Int) : List Value := l.map (Value.int .i32)
theorem i32s_length (l : List Int) : (i32s l).length = l.length := by simp [i32s]
theorem i32s_snoc (l : List Int) (x : Int) : i32s l ++ [Value.int .i32 x] = i32s (l ++ [x]) := by simp [i32s]

/-- A list of int32s that no step on the rows of L writes. -/
def I32L (w : World) (L : List RowS) (a : Option Addr) (l : List Int) : Prop := ∀ j (hj : j < l.length), ∃ b, a = some ⟨b, 0, none⟩ ∧ w.cell? ⟨b, j, none⟩ = some (.int .i32 l[j]) ∧ Safe L ⟨b, j, none⟩
def InnerL (w : World) (L : List RowS) (vs : List Value) (LS : List (List Int)) : Prop := vs.length = LS.length ∧ ∀ j (hj : j < LS.length), ∃ ao cap, vs[j]? = some (.slice ao LS[j].length cap) ∧ I32L w L ao LS[j]
theorem I32L.goes {B : Nat} {w w' : World} {L L' : List RowS} {a : Option Addr} {l : List Int} (h : I32L w L a l) (hg : Goes B w L w' L') : I32L w' L' a l := fun j hj => by
  obtain ⟨b, h1, h2, h3⟩ := h j hj
  obtain ⟨x, y⟩ := hg.safe _ _ h2 h3
  exact ⟨b, h1, x, y⟩
theorem InnerL.goes {B : Nat} {w w' : World} {L L' : List RowS} {vs : List Value} {LS : List (List Int)} (h : InnerL w L vs LS) (hg : Goes B w L w' L') : InnerL w' L' vs LS := ⟨h.1, fun j hj => by
  obtain ⟨ao, cap, h1, h2⟩ := h.2 j hj
  exact ⟨ao, cap, h1, h2.goes hg⟩⟩
theorem InnerL.at {w : World} {L : List RowS} {vs : List Value} {LS : List (List Int)} (h : InnerL w L vs LS) : InnerAt w vs LS := ⟨h.1, fun j hj => by
  obtain ⟨ao, cap, h1, h2⟩ := h.2 j hj
  exact ⟨ao, cap, h1, fun i hi => by obtain ⟨b, e1, e2, e3⟩ := h2 i hi; exact ⟨b, e1, e2⟩⟩⟩
theorem InnerL.snoc {w : World} {L : List RowS} {vs : List Value} {LS : List (List Int)} {ao : Option Addr} {l : List Int} {cap : Nat} (h : InnerL w L vs LS) (hl : I32L w L ao l) : InnerL w L (vs ++ [.slice ao l.length cap]) (LS ++ [l]) := by
  refine ⟨by simp [h.1], fun j hj => ?_⟩
  rcases Nat.lt_or_ge j LS.length with hj' | hj'
  · obtain ⟨ao', cap', h1, h2⟩ := h.2 j hj'
    rw [List.getElem_append_left hj']
    exact ⟨ao', cap', by rw [List.getElem?_append_left (by rw [h.1]; exact hj')]; exact h1, h2⟩
  · have hje : j = LS.length := by simp at hj; omega
    subst hje
    have e : (LS ++ [l])[LS.length]'hj = l := by rw [List.getElem_append_right (Nat.le_refl _)]; simp
    rw [e]
    exact ⟨ao, cap, by rw [← h.1]; simp, hl⟩

/-- A row that is let go stays as it is. -/
theorem release32 {w : World} {B n cap : Nat} {L : List RowS} {ao : Option Addr} {l : List Int} (h : Own w B (rowOf 21 (.slice ao n cap) (i32s l) :: L)) : I32L w L ao l := by
  intro j hj
  have r : RowM w B 21 1 (.slice ao n cap) (i32s l).length (i32s l) := h.get 0 rfl
  obtain ⟨g, rfl, hg⟩ := r.addr (by rw [i32s_length]; omega)
  refine ⟨g, rfl, hg j _ (by simp [i32s, List.getElem?_eq_getElem hj]), fun i hi hb => ?_⟩
  rcases h.apart 0 (i + 1) (by simp) (by simpa using hi) (by omega) with h' | h'
  · simp [rowOf, Value.ownBlock] at h'
  · exact absurd (by simpa [rowOf, Value.ownBlock] using hb.symm) h'

theorem treeOk_snoc {g : Nat} {LS PS : List (List Int)} {l p : List Int} {k : Nat} (h : TreeOk g LS PS) (hk : LS.length = k + 1) (hlp : l.length = p.length) (hl : ∀ x ∈ l, 0 ≤ x ∧ x < (g : Int)) {m : Nat} (hm : ∀ hh : k < LS.length, (LS[k]'hh).length = m) (hp : ∀ x ∈ p, 0 ≤ x ∧ x < (m : Int)) : TreeOk g (LS ++ [l]) (PS ++ [p]) := by
  obtain ⟨h1, h2, h3, h4⟩ := h
  have hkl : k < LS.length := by omega
  refine ⟨by simp [h1], fun i hi hi' => ?_, fun x hx => ?_, fun i hi hi' => ?_⟩
  · rcases Nat.lt_or_ge i LS.length with h' | h'
    · rw [List.getElem_append_left h', List.getElem_append_left (by omega)]
      exact h2 i h' (by omega)
    · have : i = LS.length := by simp at hi; omega
      subst this
      rw [List.getElem_append_right (Nat.le_refl _), List.getElem_append_right (by omega)]
      simp [h1, hlp]
  · rcases List.mem_append.1 hx with h' | h'
    · exact h3 x h'
    · simp at h'; subst h'; exact hl
  · have hi2 : i + 1 ≤ PS.length := by simp at hi; omega
    have hi3 : i < LS.length := by omega
    rw [List.getElem_append_left hi3]
    rcases Nat.lt_or_ge (i + 1) PS.length with h' | h'
    · rw [List.getElem_append_left h']
      exact h4 i h' hi3
    · have hik : i = k := by omega
      have e : (PS ++ [p])[i + 1]'hi = p := by rw [List.getElem_append_right h']; simp
      rw [e]
      subst hik
      rw [hm hi3]
      exact hp

/-- The shape's cells. -/
def shXs (rb : Nat) (rounds : Int) (src : Nat) (off : Value) (corr : Bool) (few : Int) (fully : Bool) (lv pv fv : Value) : List Value :=
  [.pointer (some ⟨rb, 0, none⟩), .int .i64 rounds, .int .i64 (src : Int), off, .bool corr, .int .u8 0, .int .i64 0, .slice none 0 0, .int .i64 few, .bool fully, .int .i64 0, .int .i64 0, lv, pv, fv]

/-- The rows of the tree. -/
def TL (sb : Nat) (xs : Value → Value → Value → List Value) (lv pv fv : Value) (lvs pvs fvs : List Value) : List RowS :=
  [rowOf 47 lv lvs, rowOf 47 pv pvs, rowOf 47 fv fvs, box 45 sb (xs lv pv fv)]

/-- The tree at level k. -/
def C3Rel (B : Nat) (w : World) (g lo rb sb : Nat) (ps : List Nat) (D : Nat → Nat) (gs : Nat) (xs : Value → Value → Value → List Value) (k : Nat) (W : Int) (wr : World) : Prop :=
  ∃ (tb tc pb pc : Nat) (fv : Value) (lvs pvs fvs : List Value) (LS PS : List (List Int)),
    LS.length = k + 1 ∧ fvs.length = k ∧ TreeOk g LS PS ∧ LS[0]? = some [(gs : Int)] ∧ PS[0]? = some [-1] ∧ (∀ j (hj : j < LS.length), LS[j].length ≤ 13 ^ j) ∧ (-(8000 + 16582956 * (k : Int)) ≤ W ∧ W ≤ 8000 + 16582956 * (k : Int)) ∧
    Goes B w [] wr (TL sb xs (.slice (some ⟨tb, 0, none⟩) (k + 1) tc) (.slice (some ⟨pb, 0, none⟩) (k + 1) pc) fv lvs pvs fvs) ∧
    InnerL wr (TL sb xs (.slice (some ⟨tb, 0, none⟩) (k + 1) tc) (.slice (some ⟨pb, 0, none⟩) (k + 1) pc) fv lvs pvs fvs) lvs LS ∧
    InnerL wr (TL sb xs (.slice (some ⟨tb, 0, none⟩) (k + 1) tc) (.slice (some ⟨pb, 0, none⟩) (k + 1) pc) fv lvs pvs fvs) pvs PS ∧
    ReachL lo wr (TL sb xs (.slice (some ⟨tb, 0, none⟩) (k + 1) tc) (.slice (some ⟨pb, 0, none⟩) (k + 1) pc) fv lvs pvs fvs) rb ps D

/-- The rows while a level grows. -/
def CL (la pa : Value) (lal pal : List Int) (fb m : Nat) (fxs : List Value) (R : List RowS) : List RowS :=
  rowOf 21 la (i32s lal) :: rowOf 21 pa (i32s pal) :: rowOf 21 (.slice (some ⟨fb, 0, none⟩) (m + 1) (m + 1)) fxs :: R

/-- The level in hand: 'cnt' children at most so far; W the work. -/
def CRel (B : Nat) (w : World) (g lo rb : Nat) (ps : List Nat) (D : Nat → Nat) (lvs pvs : List Value) (LS PS : List (List Int)) (fb m : Nat) (R : List RowS) (W0 : Int) (ao : Option Addr) (lst : List Nat) (cnt : Nat) (W : Int) (la pa : Value) (wr : World) : Prop :=
  ∃ (lal pal : List Int) (fxs : List Value), lal.length = pal.length ∧ lal.length ≤ cnt ∧ (∀ x ∈ lal, 0 ≤ x ∧ x < (g : Int)) ∧ (∀ x ∈ pal, 0 ≤ x ∧ x < (m : Int)) ∧ fxs.length = m + 1 ∧ (-(W0 + 7548 * (lal.length : Int)) ≤ W ∧ W ≤ W0 + 7548 * (lal.length : Int)) ∧
    Goes B w [] wr (CL la pa lal pal fb m fxs R) ∧ InnerL wr (CL la pa lal pal fb m fxs R) lvs LS ∧ InnerL wr (CL la pa lal pal fb m fxs R) pvs PS ∧ ReachL lo wr (CL la pa lal pal fb m fxs R) rb ps D ∧ NatsL 0 wr (CL la pa lal pal fb m fxs R) ao lst

theorem made_i32 (g : Nat) : (madeCells (Value.int .i32 0).cells (g * 1)).toList = List.replicate g (.int .i32 0) := by
  apply List.ext_getElem
  · simp [size_madeCells]
  · intro i h1 h2
    simp [madeCells, Value.cells]
    rw [Nat.mod_one]; rfl

def startsAt (k : Nat) : Code → Bool
  | .region id _ _ => id == k
  | .seq a _ => startsAt k a
  | .block _ c => startsAt k c
  | .scope c => startsAt k c
  | _ => false
/-- The code from the statement on that begins at region k. -/
def findFrom (k : Nat) : Code → Option Code
  | .seq a b => if startsAt k a then some (.seq a b) else match findFrom k a with
    | some c => some c
    | none => findFrom k b
  | .block _ c => findFrom k c
  | .loop c => findFrom k c
  | .scope c => findFrom k c
  | .cond _ a b => match findFrom k a with
    | some c => some c
    | none => findFrom k b
  | _ => none
noncomputable def code10_6 : Code := (Ybaf.f10.body.bind (findFrom 6)).getD .skip
noncomputable def code10_26 : Code := (Ybaf.f10.body.bind (findFrom 26)).getD .skip

/-- What newMAPShape gives. -/
def TreePost (B : Nat) (w : World) (g lo rb sb : Nat) (ps : List Nat) (D : Nat → Nat) (gs : Nat) (xs : Value → Value → Value → List Value) (lev : Int) (e : Ending) (w' : World) : Prop :=
  e = .returned (.tuple #[.pointer (some ⟨sb, 0, none⟩), .nilIface]) ∧ ∃ (k : Nat) (W' : Int), ((k : Int) = 0 ∨ (k : Int) ≤ lev - 1) ∧ lev - 1 ≤ (k : Int) ∧ C3Rel B w g lo rb sb ps D gs xs k W' w'

end Go.Proofs.YbulkaxksFmt
