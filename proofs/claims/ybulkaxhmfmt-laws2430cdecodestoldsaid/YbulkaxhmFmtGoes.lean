/-
  How memory goes on: the rows that the call owns, the cells that are safe beside them, and what each step makes of both.
-/
import Derived.Test.YbulkaxhmFmtBE
import Derived.Test.YbulkaxhmFmtParse
set_option linter.unusedVariables false
set_option linter.unusedSimpArgs false
namespace Go.Proofs.YbulkaxhmFmt
open Go.RowKit

/-- A cell that no step on the rows of L will write: it lies in none of their blocks, or in the used part of a row of strings. -/
def Safe (L : List RowS) (a : Addr) : Prop := ∀ i (hi : i < L.length), (L[i]).v.ownBlock = some a.block → (L[i]).e = 9 ∧ a.off < (L[i]).n ∧ (L[i]).size = 1

structure Goes (B : Nat) (w : World) (L : List RowS) (w' : World) (L' : List RowS) : Prop where
  own : Own w' B L'
  safe : ∀ a v, w.cell? a = some v → Safe L a → w'.cell? a = some v ∧ Safe L' a
  below : Below B w w'
  size : B ≤ w'.heap.size

theorem Goes.refl {B : Nat} {w : World} {L : List RowS} (h : Own w B L) (hs : B ≤ w.heap.size) : Goes B w L w L := ⟨h, fun a v h1 h2 => ⟨h1, h2⟩, Below.refl _ _, hs⟩
theorem Goes.trans {B : Nat} {w w1 w2 : World} {L L1 L2 : List RowS} (h : Goes B w L w1 L1) (k : Goes B w1 L1 w2 L2) : Goes B w L w2 L2 :=
  ⟨k.own, fun a v h1 h2 => let ⟨x, y⟩ := h.safe a v h1 h2; k.safe a v x y, h.below.trans k.below, k.size⟩

theorem Goes.grown {B : Nat} {w w1 w2 : World} {L L1 : List RowS} (h : Goes B w L w1 L1) (hg : w1.grownBy w2 none) : Goes B w L w2 L1 :=
  ⟨h.own.grown hg, fun a v h1 h2 => let ⟨x, y⟩ := h.safe a v h1 h2; ⟨hg.cell x (by simp), y⟩, h.below.grown hg h.size (fun k hk => by cases hk), Nat.le_trans h.size hg.size⟩

theorem Goes.alloc {B : Nat} {w w1 : World} {L L1 : List RowS} (h : Goes B w L w1 L1) (o : Obj) : Goes B w L (w1.alloc o) L1 := h.grown (World.grownBy_alloc w1 o none)

theorem Goes.drewN {B : Nat} {w w1 : World} {L L1 : List RowS} (h : Goes B w L w1 L1) (n : Nat) : Goes B w L (w1.drewN n) L1 :=
  h.grown ⟨rfl, rfl, rfl, Nat.le_refl _, fun _ _ _ => rfl⟩

theorem grownN (w : World) (n : Nat) : w.grownBy (w.drewN n) none := ⟨rfl, rfl, rfl, Nat.le_refl _, fun _ _ _ => rfl⟩

/-- A row is turned: all that is safe stays. -/
theorem Goes.row {B : Nat} {w w1 w2 : World} {L L1 : List RowS} (h : Goes B w L w1 L1) (i : Nat) {r r' : RowS} (hr : L1[i]? = some r) (hr' : r'.at w2 B) (hg : w1.grownBy w2 r.v.ownBlock)
    (hat : r'.v.ownBlock = r.v.ownBlock ∨ ∃ k, r'.v.ownBlock = some k ∧ w1.heap.size ≤ k) (he : r'.e = r.e) (hsz : r'.size = r.size) (hn : r.n ≤ r'.n)
    (hk : r.e = 9 → KeptUpTo w1 w2 r.v.ownBlock r.n) : Goes B w L w2 (L1.set i r') := by
  refine ⟨h.own.set i hr hr' hg hat, fun a v h1 h2 => ?_, h.own.below hr hg h.below h.size, Nat.le_trans h.size hg.size⟩
  obtain ⟨x, y⟩ := h.safe a v h1 h2
  obtain ⟨hi, hri⟩ := List.getElem?_eq_some_iff.1 hr
  have hlt := World.block_lt_of_cell? w1 a x
  refine ⟨?_, fun j hj hb => ?_⟩
  · by_cases hb : r.v.ownBlock = some a.block
    · have := y i hi (by rw [hri]; exact hb)
      rw [hri] at this
      rw [hk this.1 a hlt (fun _ => this.2.1)]
      exact x
    · exact hg.cell x (fun e => hb e.symm)
  · have hj' : j < L1.length := by simpa using hj
    by_cases hji : j = i
    · subst hji
      rw [List.getElem_set_self] at hb ⊢
      rcases hat with h3 | ⟨k, h3, h4⟩
      · have := y j hi (by rw [hri, ← h3]; exact hb)
        rw [hri] at this
        exact ⟨by rw [he]; exact this.1, by have := this.2.1; omega, by rw [hsz]; exact this.2.2⟩
      · rw [h3] at hb; injection hb with hb; omega
    · rw [List.getElem_set_ne (fun e => hji e.symm)] at hb ⊢
      exact y j hj' hb

/-- An append onto a row of the list. -/
theorem Goes.app {B : Nat} {w w1 w2 : World} {L L1 : List RowS} {o : Obj} (h : Goes B w L w1 L1) (i : Nat) {e size n m : Nat} {v v' : Value} {xs news : List Value} (hr : L1[i]? = some ⟨e, size, v, n, xs⟩)
    (h1 : RowM w2 B e size v' (n + m) (xs ++ news)) (h2 : (w1.alloc o).grownBy w2 v.ownBlock) (h3 : v'.ownBlock = v.ownBlock ∨ v'.ownBlock = some (w1.heap.size + 1)) (h4 : KeptUpTo (w1.alloc o) w2 v.ownBlock (n * size)) (hs : e = 9 → size = 1) :
    Goes B w L w2 (L1.set i ⟨e, size, v', n + m, xs ++ news⟩) := by
  refine h.row i hr h1 (grown_alloc h2) ?_ rfl rfl (by simp) (fun he => ?_)
  · rcases h3 with h3 | h3
    · exact .inl h3
    · exact .inr ⟨_, h3, by omega⟩
  · have := kept_alloc h4
    rw [hs he] at this
    simpa using this

/-- A new row in a new block. -/
theorem Goes.cons {B : Nat} {w w1 w2 : World} {L L1 : List RowS} (h : Goes B w L w1 L1) {r : RowS} (hr : r.at w2 B) (hg : w1.grownBy w2 none) (hat : ∀ k, r.v.ownBlock = some k → w1.heap.size ≤ k) : Goes B w L w2 (r :: L1) := by
  refine ⟨h.own.cons hr hg hat, fun a v h1 h2 => ?_, h.below.grown hg h.size (fun k hk => by cases hk), Nat.le_trans h.size hg.size⟩
  obtain ⟨x, y⟩ := h.safe a v h1 h2
  have hlt := World.block_lt_of_cell? w1 a x
  refine ⟨hg.cell x (by simp), fun j hj hb => ?_⟩
  cases j with
  | zero =>
    have := hat a.block hb
    omega
  | succ j => exact y j (by simpa using hj) hb

/-- A row is let go. -/
theorem Goes.tail {B : Nat} {w w1 : World} {L L1 : List RowS} {r : RowS} (h : Goes B w L w1 (r :: L1)) : Goes B w L w1 L1 :=
  ⟨h.own.tail, fun a v h1 h2 => let ⟨x, y⟩ := h.safe a v h1 h2; ⟨x, fun j hj hb => y (j + 1) (by simpa using hj) hb⟩, h.below, h.size⟩

/-- A box: a block of its own with its cells. -/
def box (e g : Nat) (xs : List Value) : RowS := ⟨e, xs.length, .slice (some ⟨g, 0, none⟩) 1 1, 1, xs⟩

theorem box_new (w : World) (B e : Nat) (xs : List Value) (hB : B ≤ w.heap.size) : (box e w.heap.size xs).at (w.alloc (.cells xs.toArray e)) B :=
  ⟨by simp [box], .inr ⟨w.heap.size, 1, xs.toArray, (0, 0), rfl, hB, heap_alloc_new w _, .inl rfl, Nat.le_refl _, by decide, by simp [box], by simp [box]⟩⟩

theorem Own.box_cell {w : World} {B : Nat} {L : List RowS} (h : Own w B L) (i : Nat) {e g : Nat} {xs : List Value} (hr : L[i]? = some (box e g xs)) (j : Nat) {u : Value} (hu : xs[j]? = some u) : w.cell? ⟨g, j, none⟩ = some u :=
  RowM.cells (h.get i hr) (g := g) rfl j u hu

theorem RowM.unfrozen {w : World} {base e size n : Nat} {v : Value} {xs : List Value} (h : RowM w base e size v n xs) {g : Nat} (hg : v.ownBlock = some g) : ∀ j, j < n * size → w.frozen? ⟨g, j, none⟩ = false := by
  intro j hj
  rcases h.2 with ⟨rfl, _⟩ | ⟨g', cap, cur, fr, rfl, _, hgg, hfr, hnc, _, hcs, htake⟩
  · simp [Value.ownBlock] at hg
  · simp [Value.ownBlock] at hg
    subst hg
    have hle : n * size ≤ cap * size := Nat.mul_le_mul_right _ hnc
    unfold World.frozen?
    rw [hgg]
    obtain ⟨lo, hi⟩ := fr
    rcases hfr with h | h
    · cases h; simp
    · simp only [Bool.and_eq_false_iff, decide_eq_false_iff_not]
      left
      have : lo ≥ cur.size := h
      show ¬ lo ≤ j
      omega

theorem Own.box_frozen {w : World} {B : Nat} {L : List RowS} (h : Own w B L) (i : Nat) {e g : Nat} {xs : List Value} (hr : L[i]? = some (box e g xs)) (j : Nat) (hj : j < xs.length) : w.frozen? ⟨g, j, none⟩ = false :=
  RowM.unfrozen (h.get i hr) (g := g) rfl j (by simpa [box] using hj)

theorem grown_setCell (w : World) (g j : Nat) (u : Value) : w.grownBy (w.setCell ⟨g, j, none⟩ u) (some g) :=
  ⟨rfl, rfl, rfl, by simp [World.setCell], fun k hk hr => Below.heap_setCell w _ u k (fun e => hr (by rw [e]))⟩

/-- A store into a box. -/
theorem Goes.setBox {B : Nat} {w w1 : World} {L L1 : List RowS} (h : Goes B w L w1 L1) (i : Nat) {e g : Nat} {xs : List Value} (hr : L1[i]? = some (box e g xs)) (he : e ≠ 9) (j : Nat) (hj : j < xs.length) (u : Value) :
    Goes B w L (w1.setCell ⟨g, j, none⟩ u) (L1.set i (box e g (xs.set j u))) := by
  refine h.row i hr ?_ (grown_setCell w1 g j u) (.inl rfl) rfl (by simp [box]) (Nat.le_refl _) (fun h => absurd h he)
  have hrow := h.own.get i hr
  rcases hrow.2 with ⟨h0, _⟩ | ⟨g', cap, cur, fr, hv, hb, hgg, hfr, hnc, hcm, hcs, htake⟩
  · simp [box] at h0
  · simp only [box, Value.slice.injEq, Option.some.injEq, Addr.mk.injEq] at hv
    obtain ⟨⟨rfl, _, _⟩, _, rfl⟩ := hv
    refine ⟨by simp [box], .inr ⟨g, 1, cur.setIfInBounds j u, fr, rfl, hb, setCell_heap w1 g j cur e fr u hgg, by simpa using hfr, Nat.le_refl _, by decide, by simpa [box] using hcs, ?_⟩⟩
    simp only [box, Nat.one_mul] at htake ⊢
    rw [List.length_set, Array.toList_setIfInBounds, List.take_set, htake]

/-- A list of strings that is there and safe. -/
def StrAt (w : World) (L : List RowS) (v : Value) (ls : List (List UInt8)) : Prop :=
  ∃ ao cap, v = .slice ao ls.length cap ∧ ∀ j (hj : j < ls.length), ∃ g off, ao = some ⟨g, off, none⟩ ∧ w.cell? ⟨g, off + j, none⟩ = some (sv ls[j]) ∧ Safe L ⟨g, off + j, none⟩

theorem StrAt.goes {B : Nat} {w w' : World} {L L' : List RowS} {v : Value} {ls : List (List UInt8)} (h : StrAt w L v ls) (hg : Goes B w L w' L') : StrAt w' L' v ls := by
  obtain ⟨ao, cap, rfl, hc⟩ := h
  refine ⟨ao, cap, rfl, fun j hj => ?_⟩
  obtain ⟨g, off, h1, h2, h3⟩ := hc j hj
  obtain ⟨x, y⟩ := hg.safe _ _ h2 h3
  exact ⟨g, off, h1, x, y⟩

end Go.Proofs.YbulkaxhmFmt
