/-
  Rows that the call owns, side by side: a list of rows in separate blocks; what an append, a store, a new block make of the list.
-/
import Derived.Test.YbulkaxhmFmtRowM
import Derived.Test.YbulkaxhmFmtPut
set_option linter.unusedVariables false
set_option linter.unusedSimpArgs false
namespace Go.Proofs.YbulkaxhmFmt
open Go.RowKit

/-- Every old cell is as it was, but for those of the block 'row' from 'n' on. -/
def KeptUpTo (w w' : World) (row : Option Nat) (n : Nat) : Prop := ∀ a : Addr, a.block < w.heap.size → (row = some a.block → a.off < n) → w'.cell? a = w.cell? a

section
variable {P : Program}

/-- APPEND ONTO A ROW OF THE CALL's OWN, FROM WHATEVER SOURCE. -/
theorem run_append_rowK (w : World) (base : Nat) (t tx ty e : TypeId) (i : TypeInfo) (z : Value) (size bytes : Nat) (ht : P.underlying t = some (.slice e)) (hi : P.info? e = some i) (hz : i.zero = some z)
    (hsize : i.size = size) (hby : i.bytes = bytes) (hzs : z.cells.size = size)
    (v : Value) (n : Nat) (xs : List Value) (hown : RowM w base e size v n xs)
    (x : Value) (m : Nat) (news : List Value) (hs : Src P size tx x m news w)
    (h63 : n + m ≤ maxLen) (hbytes : (n + m) * bytes ≤ 140737488355328) (hbase : base ≤ w.heap.size) :
    ∃ v' w', (Builtin.append_ #[t, tx] ty #[v, x]).run P w = .ok v' w' ∧ RowM w' base e size v' (n + m) (xs ++ news) ∧ w.grownBy w' v.ownBlock ∧ (v'.ownBlock = v.ownBlock ∨ v'.ownBlock = some w.heap.size) ∧ KeptUpTo w w' v.ownBlock (n * size) ∧ (0 < m → v'.ownBlock ≠ none) := by
  subst hsize
  subst hby
  have hsmall : n + m ≤ 9223372036854775807 := by simp only [maxLen] at h63; omega
  have hlen : (xs ++ news).length = (n + m) * i.size := by rw [List.length_append, hown.1, hs.newsLen, Nat.add_mul]
  have grown : ∀ (old : Nat), old < n + m → ∀ (row : Option Nat),
      RowM (w.drew.alloc (.cells ((xs ++ news).toArray ++ Builtin.zeroCells z.cells (grownCap w (n + m) old e - (n + m))) e)) base e i.size
        (.slice (some ⟨w.heap.size, 0, none⟩) (n + m) (grownCap w (n + m) old e)) (n + m) (xs ++ news) ∧
      w.grownBy (w.drew.alloc (.cells ((xs ++ news).toArray ++ Builtin.zeroCells z.cells (grownCap w (n + m) old e - (n + m))) e)) row := by
    intro old ho row
    have hge := grownCap_ge w (n + m) old e
    have hcm : grownCap w (n + m) old e ≤ maxLen := grownCap_le_maxLen w (n + m) old e h63
    refine ⟨⟨hlen, .inr ⟨w.heap.size, _, _, (0, 0), rfl, hbase, heap_alloc_new w.drew _, .inl rfl, hge, hcm, ?_, ?_⟩⟩, ⟨rfl, rfl, rfl, by simp, fun k hk _ => Below.heap_alloc w.drew _ k hk⟩⟩
    · simp only [Array.size_append, List.size_toArray, size_zeroCells, hzs, hlen, ← Nat.add_mul]
      congr 1
      omega
    · simp only [Array.toList_append]
      rw [← hlen]
      exact List.take_left
  by_cases hm0 : m = 0
  · subst hm0
    have hn : news = [] := List.eq_nil_of_length_eq_zero (by simpa using hs.newsLen)
    subst hn
    rcases hown.2 with ⟨rfl, rfl⟩ | ⟨g, cap, cur, fr, rfl, hbg, hg, hfr, hnc, hcm, hcs, htake⟩
    · exact ⟨_, w, run_append_nothing w t tx ty e i ht hi none 0 0 (Nat.le_refl _) x hs, by simpa using hown, World.grownBy.refl w _, .inl rfl, fun _ _ _ => rfl, fun h => absurd h (Nat.lt_irrefl _)⟩
    · exact ⟨_, w, run_append_nothing w t tx ty e i ht hi _ n cap hnc x hs, by simpa using hown, World.grownBy.refl w _, .inl rfl, fun _ _ _ => rfl, fun h => absurd h (Nat.lt_irrefl _)⟩
  · rcases hown.2 with ⟨rfl, rfl⟩ | ⟨g, cap, cur, fr, rfl, hbg, hg, hfr, hnc, hcm, hcs, htake⟩
    · have hx : xs = [] := List.eq_nil_of_length_eq_zero (by simpa using hown.1)
      subst hx
      have hr := run_append_grow_src (P := P) w t tx ty e i z ht hi hz none 0 0 [] (run_firstCells_none w.drew i.size 0 0 0) x m news hs (by omega) (by omega) (growslice_fits (by omega) hbytes)
      have hgr := grown 0 (by omega) (Value.ownBlock (.slice none 0 0))
      exact ⟨_, _, hr, hgr.1, hgr.2, .inr rfl, fun a ha _ => World.cell?_of_block (Below.heap_alloc w.drew _ a.block ha), fun _ => by simp [Value.ownBlock]⟩
    · by_cases hroom : n + m ≤ cap
      · have hfit : n * i.size + news.length ≤ cur.size := by rw [hs.newsLen, hcs, ← Nat.add_mul]; exact Nat.mul_le_mul_right _ hroom
        have hr := run_append_room_src (P := P) w t tx ty e i ht hi g 0 n cap x m news hs hroom
          (fun j hj => by rw [cell_of_row w g _ cur e fr hg]; simp; omega)
          (fun j hj => by
            unfold World.frozen?
            rw [hg]
            obtain ⟨lo, hi'⟩ := fr
            rcases hfr with h | h
            · cases h; simp
            · simp only [Bool.and_eq_false_iff, decide_eq_false_iff_not]
              left
              have : lo ≥ cur.size := h
              show ¬ lo ≤ 0 + n * i.size + j
              omega)
        obtain ⟨cur', h1, h2, h3⟩ := setCells_heap g e fr news (0 + n * i.size) w cur hg (by omega)
        refine ⟨_, _, hr, ⟨hlen, .inr ⟨g, cap, cur', fr, rfl, hbg, h1, ?_, hroom, hcm, by rw [h2]; exact hcs, ?_⟩⟩, setCells_grown g news _ w, .inl rfl, fun a ha hlt => World.cell?_setCells_out g news _ w a (fun h1 _ => .inl (by have := hlt (by rw [h1]; rfl); omega)), fun _ => by simp [Value.ownBlock]⟩
        · rw [h2]; exact hfr
        · rw [← hlen, List.length_append, hown.1, ← Nat.zero_add (n * i.size), h3, Nat.zero_add, htake]
      · have hold := run_firstCells_some (P := P) w.drew i.size n ⟨g, 0, none⟩ n cap xs hown.1 (fun j u hu => by
          have hadd : (⟨g, 0, none⟩ : Addr).add j = ⟨g, j, none⟩ := by unfold Addr.add; split <;> simp_all
          rw [hadd]
          exact RowM.cells hown (g := g) rfl j u hu)
        have hr := run_append_grow_src (P := P) w t tx ty e i z ht hi hz (some ⟨g, 0, none⟩) n cap xs hold x m news hs (by omega) (by omega) (growslice_fits (by omega) hbytes)
        have hgr := grown cap (by omega) (Value.ownBlock (.slice (some ⟨g, 0, none⟩) n cap))
        exact ⟨_, _, hr, hgr.1, hgr.2, .inr rfl, fun a ha _ => World.cell?_of_block (Below.heap_alloc w.drew _ a.block ha), fun _ => by simp [Value.ownBlock]⟩


theorem wpList_append_rowK (w : World) {ops : Array Oper} {rest : List Oper} {o : Oper} {a : Act} {Q : Exit → Act → World → Prop} (hgd : o.guard = none) (s y : Operand) (t tx : TypeId)
    (ho : o.op = .call { callee := .builtin .append, args := #[s, y], argTypes := #[t, tx] })
    (base : Nat) (e : TypeId) (i : TypeInfo) (z : Value) (size bytes : Nat) (ht : P.underlying t = some (.slice e)) (hi : P.info? e = some i) (hz : i.zero = some z)
    (hsize : i.size = size) (hby : i.bytes = bytes) (hzs : z.cells.size = size)
    (v : Value) (n : Nat) (xs : List Value) (hsv : a.eval s = v) (hown : RowM w base e size v n xs)
    (x : Value) (m : Nat) (news : List Value) (hx : a.eval y = x) (hs : Src P size tx x m news w)
    (h63 : n + m ≤ maxLen) (hbytes : (n + m) * bytes ≤ 140737488355328) (hbase : base ≤ w.heap.size)
    (h : ∀ v' w', RowM w' base e size v' (n + m) (xs ++ news) → w.grownBy w' v.ownBlock → (v'.ownBlock = v.ownBlock ∨ v'.ownBlock = some w.heap.size) → KeptUpTo w w' v.ownBlock (n * size) → (0 < m → v'.ownBlock ≠ none) → wpList P ops Q rest (a.put o.dst v') w') : wpList P ops Q (o :: rest) a w := by
  obtain ⟨v', w', hr, h2, h3, h4, h5, h6⟩ := run_append_rowK (P := P) w base t tx o.type e i z size bytes ht hi hz hsize hby hzs v n xs hown x m news hs h63 hbytes hbase
  refine wpList_plain hgd fun K hK => ?_
  unfold Oper.wp execOp
  simp only [ho, resolve, invoke, builtin, Sem.run_bind, Sem.run_pure, Result.andThen_ok, List.map_toArray, List.map_cons, List.map_nil, hsv, hx, hr]
  exact hK _ _ (h v' w' h2 h3 h4 h5 h6)
end

/-! ### Rows side by side -/

structure RowS where
  e : TypeId
  size : Nat
  v : Value
  n : Nat
  xs : List Value

def RowS.at (r : RowS) (w : World) (base : Nat) : Prop := RowM w base r.e r.size r.v r.n r.xs

def Apart (a b : RowS) : Prop := a.v.ownBlock = none ∨ a.v.ownBlock ≠ b.v.ownBlock

structure Own (w : World) (base : Nat) (L : List RowS) : Prop where
  rows : ∀ i (hi : i < L.length), (L[i]).at w base
  apart : ∀ i j (hi : i < L.length) (hj : j < L.length), i ≠ j → Apart L[i] L[j]

theorem Own.nil (w : World) (base : Nat) : Own w base [] := ⟨fun i hi => absurd hi (Nat.not_lt_zero _), fun i j hi => absurd hi (Nat.not_lt_zero _)⟩

theorem Own.get {w : World} {base : Nat} {L : List RowS} (h : Own w base L) (i : Nat) {r : RowS} (hr : L[i]? = some r) : r.at w base := by
  obtain ⟨hi, rfl⟩ := List.getElem?_eq_some_iff.1 hr
  exact h.rows i hi

theorem Own.alloc {w : World} {base : Nat} {L : List RowS} (h : Own w base L) (o : Obj) : Own (w.alloc o) base L := ⟨fun i hi => RowM.alloc (h.rows i hi) o, h.apart⟩

/-- Nothing old is written. -/
theorem Own.grown {w w' : World} {base : Nat} {L : List RowS} (h : Own w base L) (hg : w.grownBy w' none) : Own w' base L :=
  ⟨fun i hi => RowM.kept (h.rows i hi) hg (by cases (L[i]).v.ownBlock <;> simp), h.apart⟩

/-- One row is turned, all others stay. -/
theorem Own.set {w w' : World} {base : Nat} {L : List RowS} (h : Own w base L) (i : Nat) {r r' : RowS} (hr : L[i]? = some r) (hr' : r'.at w' base) (hg : w.grownBy w' r.v.ownBlock)
    (hat : r'.v.ownBlock = r.v.ownBlock ∨ ∃ k, r'.v.ownBlock = some k ∧ w.heap.size ≤ k) : Own w' base (L.set i r') := by
  obtain ⟨hi, rfl⟩ := List.getElem?_eq_some_iff.1 hr
  have fresh : ∀ j (hj : j < L.length), j ≠ i → Apart r' L[j] := by
    intro j hj hne
    rcases hat with h1 | ⟨k, h1, h2⟩
    · unfold Apart; rw [h1]; exact h.apart i j hi hj (fun e => hne e.symm)
    · right
      rw [h1]
      intro e
      have := (RowM.lt (h.rows j hj) k e.symm).2
      omega
  have fresh2 : ∀ j (hj : j < L.length), j ≠ i → Apart L[j] r' := by
    intro j hj hne
    rcases fresh j hj hne with h1 | h1
    · cases hv : (L[j]).v.ownBlock with
      | none => exact .inl hv
      | some k => right; rw [hv, h1]; simp
    · exact .inr (fun e => h1 e.symm)
  refine ⟨fun j hj => ?_, fun j k hj hk hne => ?_⟩
  · rw [List.length_set] at hj
    by_cases hji : j = i
    · subst hji; rw [List.getElem_set_self]; exact hr'
    · rw [List.getElem_set_ne (fun e => hji e.symm)]
      refine RowM.kept (h.rows j hj) hg ?_
      exact h.apart j i hj hi hji
  · have hj' : j < L.length := by simpa using hj
    have hk' : k < L.length := by simpa using hk
    by_cases hji : j = i
    · subst hji
      rw [List.getElem_set_self, List.getElem_set_ne hne]
      exact fresh k hk' (fun e => hne e.symm)
    · rw [List.getElem_set_ne (fun e => hji e.symm)]
      by_cases hki : k = i
      · subst hki; rw [List.getElem_set_self]; exact fresh2 j hj' hji
      · rw [List.getElem_set_ne (fun e => hki e.symm)]
        exact h.apart j k hj' hk' hne

/-- A new row in a new block. -/
theorem Own.cons {w w' : World} {base : Nat} {L : List RowS} (h : Own w base L) {r : RowS} (hr : r.at w' base) (hg : w.grownBy w' none) (hat : ∀ k, r.v.ownBlock = some k → w.heap.size ≤ k) : Own w' base (r :: L) := by
  have h' := h.grown hg
  have fresh : ∀ j (hj : j < L.length), Apart r L[j] := by
    intro j hj
    cases hv : r.v.ownBlock with
    | none => exact .inl hv
    | some k =>
      right
      rw [hv]
      intro e
      have := (RowM.lt (h.rows j hj) k e.symm).2
      have := hat k hv
      omega
  refine ⟨fun j hj => ?_, fun j k hj hk hne => ?_⟩
  · cases j with
    | zero => exact hr
    | succ j => exact h'.rows j (by simpa using hj)
  · cases j with
    | zero =>
      cases k with
      | zero => exact absurd rfl hne
      | succ k => exact fresh k (by simpa using hk)
    | succ j =>
      cases k with
      | zero =>
        have hj' : j < L.length := by simpa using hj
        have hf := fresh j hj'
        show Apart L[j] r
        rcases hf with h1 | h1
        · cases hv : (L[j]).v.ownBlock with
          | none => exact .inl hv
          | some k => right; rw [hv, h1]; simp
        · exact .inr (fun e => h1 e.symm)
      | succ k => exact h.apart j k (by simpa using hj) (by simpa using hk) (by omega)

theorem Own.tail {w : World} {base : Nat} {r : RowS} {L : List RowS} (h : Own w base (r :: L)) : Own w base L :=
  ⟨fun i hi => h.rows (i + 1) (by simpa using hi), fun i j hi hj hne => h.apart (i + 1) (j + 1) (by simpa using hi) (by simpa using hj) (by omega)⟩

theorem Own.below {w w' : World} {base : Nat} {L : List RowS} (h : Own w base L) {i : Nat} {r : RowS} (hr : L[i]? = some r) (hg : w.grownBy w' r.v.ownBlock) {w0 : World} (hb : Below base w0 w) (hs : base ≤ w.heap.size) : Below base w0 w' :=
  hb.grown hg hs (fun k hk => (RowM.lt (h.get i hr) k hk).1)

end Go.Proofs.YbulkaxhmFmt
