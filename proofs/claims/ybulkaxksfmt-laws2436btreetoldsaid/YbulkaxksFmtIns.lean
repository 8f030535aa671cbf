/-
  slices.Insert (by the shelf), slices.Clone, slices.BinarySearch: what the callers need of them.
-/
import Derived.Test.YbulkaxksFmtNb
import Derived.Shelf.Spec.SlicesInsert
import Derived.Shelf.Spec.SlicesInsertGrow
import Derived.Shelf.Lay
import Derived.Ground.Names2Prog
set_option linter.unusedVariables false
set_option linter.unusedSimpArgs false
namespace Go.Proofs
open Go.Shelf Go.RowKit

shelf_lay Lays2.n21 Nm2 21 at Ybaf as Ybaf.laysInsert

namespace YbulkaxksFmt

def insL (l : List Nat) (i x : Nat) : List Nat := l.take i ++ x :: l.drop i
theorem insL_length (l : List Nat) (i x : Nat) (h : i ≤ l.length) : (insL l i x).length = l.length + 1 := by
  simp [insL]; omega
theorem cells3 {W : World} {lo g i x : Nat} {l : List Nat} (hlo : lo ≤ g) (hi : i ≤ l.length) (hA : ∀ j v, ((ivs l).take i)[j]? = some v → W.cell? ⟨g, j, none⟩ = some v) (hx : W.cell? ⟨g, i, none⟩ = some (iv x)) (hB : ∀ j v, ((ivs l).drop i)[j]? = some v → W.cell? ⟨g, i + 1 + j, none⟩ = some v) :
    NatsAt W lo (some ⟨g, 0, none⟩) (insL l i x) := by
  intro j hj
  refine ⟨g, rfl, hlo, ?_⟩
  have e : ivs (insL l i x) = (ivs l).take i ++ iv x :: (ivs l).drop i := by simp [ivs, insL, List.map_take, List.map_drop]
  have hg : (ivs (insL l i x))[j]? = some (iv (insL l i x)[j]) := by simp [ivs, List.getElem?_eq_getElem hj]
  rw [e] at hg
  have hl : ((ivs l).take i).length = i := by rw [List.length_take, ivs_length]; omega
  rcases Nat.lt_trichotomy j i with h | h | h
  · rw [List.getElem?_append_left (by omega)] at hg
    exact hA j _ hg
  · subst h
    rw [List.getElem?_append_right (by omega), hl, Nat.sub_self] at hg
    simp only [List.getElem?_cons_zero, Option.some.injEq] at hg
    rw [hx, hg]
  · rw [List.getElem?_append_right (by omega), hl, show j - i = (j - i - 1) + 1 by omega, List.getElem?_cons_succ] at hg
    have := hB _ _ hg
    rw [show i + 1 + (j - i - 1) = j by omega] at this
    exact this
theorem insL_mem {l : List Nat} {i x y : Nat} (h : y ∈ insL l i x) : y ∈ l ∨ y = x := by
  unfold insL at h
  rcases List.mem_append.1 h with h | h
  · exact .inl (List.mem_of_mem_take h)
  · rcases List.mem_cons.1 h with h | h
    · exact .inr h
    · exact .inl (List.mem_of_mem_drop h)

theorem setCells_below {B : Nat} {w : World} (b : Nat) (hb : B ≤ b) (vs : List Value) (o : Nat) : Below B w (w.setCells b o vs) :=
  ⟨(setCells_grown b vs o w).os, (setCells_grown b vs o w).tape, (setCells_grown b vs o w).output, (setCells_grown b vs o w).size, fun k hk => by
    by_cases hkw : k < w.heap.size
    · exact (setCells_grown b vs o w).block k hkw (by intro e; injection e with e; omega)
    · have h1 : w.heap.size ≤ k := by omega
      have : ∀ (vs : List Value) (o : Nat) (w : World), (w.setCells b o vs).heap.size = w.heap.size := by
        intro vs
        induction vs with
        | nil => intro o w; rfl
        | cons v r ih => intro o w; show ((w.setCell ⟨b, o, none⟩ v).setCells b (o + 1) r).heap.size = _; rw [ih]; simp [World.setCell]
      rw [Array.getElem?_eq_none (by rw [this]; omega), Array.getElem?_eq_none (by omega)]⟩

theorem insert_any (B n c i vb x : Nat) (base : Option Addr) (l : List Nat) (w : World) (hrow : RowM w B 3 1 (.slice base n c) n (ivs l)) (hi : i ≤ n) (hn : n ≤ 20) (hB : B ≤ w.heap.size) (hv : w.heap[vb]? = some (.cells #[iv x] 3 (0, 0)))
    (hvb : ∀ g, base = some ⟨g, 0, none⟩ → vb ≠ g) :
    Calls Ybaf.prog 23 #[.slice base n c, .int .i64 (i : Int), .slice (some ⟨vb, 0, none⟩) 1 1] w fun e w' => ∃ g cap, e = .returned (.slice (some ⟨g, 0, none⟩) (n + 1) cap) ∧ n + 1 ≤ cap ∧ cap ≤ maxLen ∧ NatsAt w' B (some ⟨g, 0, none⟩) (insL l i x) ∧ Below B w w' := by
  have hll : l.length = n := by have := hrow.1; rw [ivs_length] at this; omega
  have hvc : ∀ j v, [iv x][j]? = some v → w.cell? ⟨vb, 0 + j, none⟩ = some v := fun j v hj => by
    rw [cell_of_row w vb _ _ _ _ hv]
    simpa using hj
  have h1v : ∀ v ∈ [iv x], v.oneCell' = true := fun v hv => by simp at hv; subst hv; rfl
  have hcl : (ivs l).length = n := by rw [ivs_length]; exact hll
  rcases Nat.lt_or_ge c (n + 1) with hc | hc
  · -- no room
    rcases Nat.lt_or_ge i n with hin | hin
    · obtain ⟨b, rfl, hcs⟩ := hrow.addr (by omega)
      have hcs' : ∀ j v, (ivs l)[j]? = some v → w.cell? ⟨b, 0 + j, none⟩ = some v := fun j v hj => by rw [Nat.zero_add]; exact hcs j v hj
      have hnc : n ≤ c := by
        rcases hrow.2 with ⟨e, _⟩ | ⟨g, cap, cur, fr, e, _, _, _, hnc, _⟩
        · injection e with e1; cases e1
        · injection e with e1 e2 e3; omega
      refine (Any2.slices_Insert_int_grow Ybaf.laysInsert b 0 n c i vb 0 1 1 (ivs l) [iv x] w hin (by omega) hnc (by omega) (by omega) hcl rfl hcs' hvc (ivs_one l) h1v).mono ?_
      rintro e w' ⟨rfl, rfl⟩
      have hge := grownCap_ge w (n + 1) c 3
      have hgm := grownCap_le_maxLen w (n + 1) c 3 (by unfold maxLen; omega)
      obtain ⟨A, hA⟩ : ∃ A, A = (((ivs l).take i).toArray ++ Builtin.zeroCells (Value.int .i64 0).cells (n + 1 - i) ++ Builtin.zeroCells (Value.int .i64 0).cells (grownCap w (n + 1) c (Ybaf.laysInsert_ren.t 3) - (n + 1))) := ⟨_, rfl⟩
      have hAs : n + 1 ≤ A.size := by
        rw [hA]
        simp [size_zeroCells, Value.cells, ivs_length]
        omega
      have hAg : ∀ j v, ((ivs l).take i)[j]? = some v → A[j]? = some v := fun j v hj => by
        have hjl := (List.getElem?_eq_some_iff.1 hj).1
        rw [hA, Array.append_assoc, Array.getElem?_append_left (by simpa using hjl)]
        simpa using hj
      rw [← hA]
      have hnew : ∀ j, (w.alloc (.cells A (Ybaf.laysInsert_ren.t 3))).cell? ⟨w.heap.size, j, none⟩ = A[j]? := fun j => cell_of_row _ _ j A _ (0, 0) (heap_alloc_new w _)
      have his : ∀ j, j < n + 1 → ((w.alloc (.cells A (Ybaf.laysInsert_ren.t 3))).cell? ⟨w.heap.size, j, none⟩).isSome = true := fun j hj => by rw [hnew]; simp; omega
      have hx1 : ((w.alloc (.cells A (Ybaf.laysInsert_ren.t 3))).drew.setCells w.heap.size i [iv x]).cell? ⟨w.heap.size, i, none⟩ = some (iv x) := by
        have := World.cell?_setCells_in w.heap.size [iv x] i (w.alloc (.cells A (Ybaf.laysInsert_ren.t 3))).drew (fun j hj => his _ (by simp at hj; omega)) 0 (by simp)
        simpa using this
      have hlow : ∀ j, j ≠ i → ((w.alloc (.cells A (Ybaf.laysInsert_ren.t 3))).drew.setCells w.heap.size i [iv x]).cell? ⟨w.heap.size, j, none⟩ = (w.alloc (.cells A (Ybaf.laysInsert_ren.t 3))).cell? ⟨w.heap.size, j, none⟩ := fun j hj =>
        World.cell?_setCells_out w.heap.size [iv x] i (w.alloc (.cells A (Ybaf.laysInsert_ren.t 3))).drew ⟨w.heap.size, j, none⟩ (fun _ _ => by simp; omega)
      refine ⟨w.heap.size, _, rfl, hge, hgm, ?_, ?_⟩
      · refine cells3 (by omega) (by omega) (fun j v hj => ?_) ?_ (fun j v hj => ?_)
        · have hjl := (List.getElem?_eq_some_iff.1 hj).1
          rw [List.length_take] at hjl
          rw [World.cell?_setCells_out _ _ _ _ _ (fun _ _ => .inl (by show j < i + 1; omega))]
          exact (hlow j (by omega)).trans ((hnew j).trans (hAg j v hj))
        · rw [World.cell?_setCells_out _ _ _ _ _ (fun _ _ => .inl (by show i < i + 1; omega))]
          exact hx1
        · have hjl := (List.getElem?_eq_some_iff.1 hj).1
          have hv' := (List.getElem?_eq_some_iff.1 hj).2
          have := World.cell?_setCells_in w.heap.size ((ivs l).drop i) (i + 1) (((w.alloc (.cells A (Ybaf.laysInsert_ren.t 3))).drew.setCells w.heap.size i [iv x]).drew) (fun k hk => by
            rw [List.length_drop, ivs_length] at hk
            have h1 := hlow (i + 1 + k) (by omega)
            show (((w.alloc (.cells A (Ybaf.laysInsert_ren.t 3))).drew.setCells w.heap.size i [iv x]).cell? ⟨w.heap.size, i + 1 + k, none⟩).isSome = true
            rw [h1]
            exact his _ (by omega)) j hjl
          rw [hv'] at this
          exact this
      · have b1 : Below B w (w.alloc (.cells A (Ybaf.laysInsert_ren.t 3))).drew := ((Below.refl B w).alloc hB _).drew
        exact ((b1.trans (setCells_below w.heap.size hB _ _)).drew).trans (setCells_below w.heap.size hB _ _)
    · have hie : i = n := by omega
      subst hie
      refine (Any2.slices_Insert_int_end_grow Ybaf.laysInsert base i c vb 0 1 1 (ivs l) [iv x] w (by omega) ?_ (by omega) (by omega) hcl rfl ?_ ?_ hvc h1v).mono ?_
      · rcases hrow.2 with ⟨e, _⟩ | ⟨g, cap, cur, fr, e, _, _, _, hnc, _⟩
        · injection e with e1 e2 e3; omega
        · injection e with e1 e2 e3; omega
      · intro hb0
        rcases hrow.2 with ⟨e, h0⟩ | ⟨g, cap, cur, fr, e, _⟩
        · exact h0
        · injection e with e1 e2 e3; rw [hb0] at e1; cases e1
      · intro a ha j v hj
        subst ha
        have hj0 := (List.getElem?_eq_some_iff.1 hj).1
        obtain ⟨b, hbb, hcs⟩ := hrow.addr (by omega)
        injection hbb with hbb
        subst hbb
        rw [add_zero_off]
        exact hcs j v hj
      · rintro e w' ⟨rfl, rfl⟩
        have hge := grownCap_ge w (i + 1) c 3
        have hgm := grownCap_le_maxLen w (i + 1) c 3 (by unfold maxLen; omega)
        refine ⟨w.heap.size, _, rfl, hge, hgm, ?_, (Below.refl B w).drew.alloc hB _⟩
        have hnew := fun j => cell_of_row _ _ j _ _ (0, 0) (heap_alloc_new w.drew (.cells (((ivs l ++ [iv x]).toArray ++ Builtin.zeroCells (Value.int .i64 0).cells (grownCap w (i + 1) c (Ybaf.laysInsert_ren.t 3) - (i + 1)))) (Ybaf.laysInsert_ren.t 3)))
        have hget : ∀ j v, (ivs l ++ [iv x])[j]? = some v → (w.drew.alloc (.cells (((ivs l ++ [iv x]).toArray ++ Builtin.zeroCells (Value.int .i64 0).cells (grownCap w (i + 1) c (Ybaf.laysInsert_ren.t 3) - (i + 1)))) (Ybaf.laysInsert_ren.t 3))).cell? ⟨w.heap.size, j, none⟩ = some v := fun j v hj => by
          have hjl := (List.getElem?_eq_some_iff.1 hj).1
          refine (hnew j).trans ?_
          rw [Array.getElem?_append_left (by simpa using hjl)]
          simpa using hj
        refine cells3 (by omega) (by omega) (fun j v hj => ?_) ?_ (fun j v hj => ?_)
        · refine hget j v ?_
          have hjl := (List.getElem?_eq_some_iff.1 hj).1
          rw [List.length_take] at hjl
          rw [List.getElem?_append_left (by omega)]
          rw [List.getElem?_take_of_lt (by omega)] at hj
          exact hj
        · refine hget i _ ?_
          rw [List.getElem?_append_right (by omega), hcl, Nat.sub_self]
          rfl
        · have hjl := (List.getElem?_eq_some_iff.1 hj).1
          rw [List.length_drop] at hjl
          omega
  · have h0 : 0 < c := by omega
    rcases hrow.2 with ⟨e, _⟩ | ⟨b, cap, cur, fr, e, hb, hg, hfr, hnc, hcm, hcs, htake⟩
    · injection e with e1 e2 e3; omega
    · injection e with e1 e2 e3
      subst e1; subst e3
      have hcells := fun j v => RowM.cells hrow (g := b) rfl j v
      have hsp : ∀ j, j < c → (w.cell? ⟨b, j, none⟩).isSome = true := fun j hj => by
        rw [cell_of_row w b j cur 3 fr hg]
        simp; omega
      have hfz : ∀ j, j < c → w.frozen? ⟨b, j, none⟩ = false := fun j hj => by
        unfold World.frozen?
        rw [hg]
        obtain ⟨lo, hi'⟩ := fr
        rcases hfr with h | h
        · cases h; simp
        · simp only [Bool.and_eq_false_iff, decide_eq_false_iff_not]
          left
          have : lo ≥ cur.size := h
          show ¬ lo ≤ j
          omega
      rcases Nat.lt_or_ge i n with hin | hin
      · refine (Any2.slices_Insert_int_shift Ybaf.laysInsert b 0 n c i vb 0 1 1 (ivs l) [iv x] w hin (by omega) hc (by unfold maxLen at hcm; omega) (hvb b rfl) hcl rfl (fun j v hj => by rw [Nat.zero_add]; exact hcells j v hj) (fun j hj => by rw [Nat.zero_add]; exact hsp j (by omega)) (fun j hj => by rw [Nat.zero_add]; exact hfz j (by omega)) hvc (ivs_one l) h1v
          3 3 1 cur.size (by unfold World.shape?; rw [hv]; rfl) (by unfold World.shape?; rw [hg]) (by omega) (by unfold World.frozen?; rw [hv]; rfl) (by unfold World.frozen?; rw [hv]; rfl)).mono ?_
        rintro e w' ⟨rfl, rfl⟩
        have hbl : Below B w ((w.drew.setCells b (0 + (i + 1)) ((ivs l).drop i)).setCells b (0 + i) [iv x]) := ((Below.refl B w).drew.trans (setCells_below (w := w.drew) b hb _ _)).trans (setCells_below b hb _ _)
        refine ⟨b, c, rfl, hc, hcm, ?_, hbl⟩
        rw [Nat.zero_add, Nat.zero_add]
        have hB1 := World.cell?_setCells_in b ((ivs l).drop i) (i + 1) w.drew (fun k hk => by rw [List.length_drop, ivs_length] at hk; exact hsp _ (by omega))
        refine cells3 (by omega) (by omega) (fun j v hj => ?_) ?_ (fun j v hj => ?_)
        · have hjl := (List.getElem?_eq_some_iff.1 hj).1
          rw [List.length_take] at hjl
          rw [World.cell?_setCells_out _ _ _ _ _ (fun _ _ => .inl (by show j < i; omega)), World.cell?_setCells_out _ _ _ _ _ (fun _ _ => .inl (by show j < i + 1; omega))]
          rw [List.getElem?_take_of_lt (by omega)] at hj
          exact hcells j v hj
        · have := World.cell?_setCells_in b [iv x] i (w.drew.setCells b (i + 1) ((ivs l).drop i)) (fun k hk => by
            have hk0 : k = 0 := by simp at hk; omega
            subst hk0
            rw [World.cell?_setCells_out _ _ _ _ _ (fun _ _ => .inl (by show i + 0 < i + 1; omega))]
            exact hsp _ (by omega)) 0 (by simp)
          simpa using this
        · have hjl := (List.getElem?_eq_some_iff.1 hj).1
          have hv' := (List.getElem?_eq_some_iff.1 hj).2
          rw [World.cell?_setCells_out _ _ _ _ _ (fun _ _ => .inr (by show i + [iv x].length ≤ i + 1 + j; simp))]
          rw [hB1 j hjl, hv']
      · have hie : i = n := by omega
        subst hie
        refine (Any2.slices_Insert_int_end_room Ybaf.laysInsert b 0 i c vb 0 1 1 [iv x] w (by omega) hc (by unfold maxLen at hcm; omega) rfl (fun j hj => by rw [Nat.zero_add]; exact hsp _ (by omega)) (fun j hj => by rw [Nat.zero_add]; exact hfz _ (by omega)) hvc h1v).mono ?_
        rintro e w' ⟨rfl, rfl⟩
        refine ⟨b, c, rfl, hc, hcm, ?_, setCells_below b hb _ _⟩
        rw [Nat.zero_add]
        refine cells3 (by omega) (by omega) (fun j v hj => ?_) ?_ (fun j v hj => ?_)
        · have hjl := (List.getElem?_eq_some_iff.1 hj).1
          rw [List.length_take] at hjl
          rw [World.cell?_setCells_out _ _ _ _ _ (fun _ _ => .inl (by show j < i; omega))]
          rw [List.getElem?_take_of_lt (by omega)] at hj
          exact hcells j v hj
        · have := World.cell?_setCells_in b [iv x] i w (fun k hk => by
            have hk0 : k = 0 := by simp at hk; omega
            subst hk0
            exact hsp _ (by omega)) 0 (by simp)
          simpa using this
        · have hjl := (List.getElem?_eq_some_iff.1 hj).1
          rw [List.length_drop] at hjl
          omega

end YbulkaxksFmt
end Go.Proofs
