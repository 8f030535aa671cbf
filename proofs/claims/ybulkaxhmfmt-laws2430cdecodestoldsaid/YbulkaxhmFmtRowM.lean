/-
  A row that the call owns, whatever mark its block bears behind its end ('[]byte(s)' lays such a mark), and append onto it from whatever source.
-/
import Derived.Test.YbulkaxhmFmtRows
import Derived.WalkKit
import Derived.Deep.AppendSrc
import Derived.Deep.Upon
import Derived.Deep.AppendLies
set_option linter.unusedVariables false
set_option linter.unusedSimpArgs false
namespace Go.Proofs.YbulkaxhmFmt
open Go.RowKit

def RowM (w : World) (base : Nat) (e : TypeId) (size : Nat) (v : Value) (n : Nat) (xs : List Value) : Prop :=
  xs.length = n * size ∧ ((v = .slice none 0 0 ∧ n = 0) ∨
   ∃ g cap cur fr, v = .slice (some ⟨g, 0, none⟩) n cap ∧ base ≤ g ∧ w.heap[g]? = some (.cells cur e fr) ∧ (fr = (0, 0) ∨ cur.size ≤ fr.1) ∧ n ≤ cap ∧ cap ≤ maxLen ∧ cur.size = cap * size ∧ cur.toList.take (n * size) = xs)

theorem RowM.of_owns {w : World} {base e size n : Nat} {v : Value} {xs : List Value} (h : w.ownsRow base e size v n xs) : RowM w base e size v n xs := by
  refine ⟨h.1, ?_⟩
  rcases h.2 with h0 | ⟨g, cap, cur, h1, h2, h3, h4⟩
  · exact .inl h0
  · exact .inr ⟨g, cap, cur, (0, 0), h1, h2, h3, .inl rfl, h4⟩

theorem RowM.lt {w : World} {base e size n : Nat} {v : Value} {xs : List Value} (h : RowM w base e size v n xs) : ∀ k, v.ownBlock = some k → base ≤ k ∧ k < w.heap.size := by
  intro k hk
  rcases h.2 with ⟨rfl, _⟩ | ⟨g, cap, cur, fr, rfl, hb, hg, _⟩
  · simp [Value.ownBlock] at hk
  · simp [Value.ownBlock] at hk
    subst hk
    exact ⟨hb, (Array.getElem?_eq_some_iff.1 hg).1⟩

theorem RowM.kept {w w' : World} {base e size n : Nat} {v : Value} {xs : List Value} {row : Option Nat} (h : RowM w base e size v n xs) (hg : w.grownBy w' row) (hne : v.ownBlock = none ∨ v.ownBlock ≠ row) : RowM w' base e size v n xs := by
  refine ⟨h.1, ?_⟩
  rcases h.2 with hn | ⟨g, cap, cur, fr, rfl, hb, hgg, rest⟩
  · exact .inl hn
  · refine .inr ⟨g, cap, cur, fr, rfl, hb, ?_, rest⟩
    rw [hg.block g (Array.getElem?_eq_some_iff.1 hgg).1 (by simpa [Value.ownBlock] using hne)]
    exact hgg

theorem RowM.below {w w' : World} {base e size n B : Nat} {v : Value} {xs : List Value} (h : RowM w base e size v n xs) (hb : Below B w w') (hlt : ∀ k, v.ownBlock = some k → k < B) : RowM w' base e size v n xs := by
  refine ⟨h.1, ?_⟩
  rcases h.2 with hn | ⟨g, cap, cur, fr, rfl, hb', hgg, rest⟩
  · exact .inl hn
  · refine .inr ⟨g, cap, cur, fr, rfl, hb', ?_, rest⟩
    rw [hb.block g (hlt g rfl)]
    exact hgg

theorem RowM.alloc {w : World} {base e size n : Nat} {v : Value} {xs : List Value} (h : RowM w base e size v n xs) (o : Obj) : RowM (w.alloc o) base e size v n xs :=
  h.kept (World.grownBy_alloc w o none) (by cases hv : v.ownBlock <;> simp)

theorem RowM.base_le {w : World} {base base' e size n : Nat} {v : Value} {xs : List Value} (h : RowM w base e size v n xs) (hb : base' ≤ base) : RowM w base' e size v n xs := by
  refine ⟨h.1, ?_⟩
  rcases h.2 with hn | ⟨g, cap, cur, fr, rfl, hb', rest⟩
  · exact .inl hn
  · exact .inr ⟨g, cap, cur, fr, rfl, by omega, rest⟩

theorem RowM.form {w : World} {base e size n : Nat} {v : Value} {xs : List Value} (h : RowM w base e size v n xs) : ∃ ao cap, v = .slice ao n cap := by
  rcases h.2 with ⟨rfl, rfl⟩ | ⟨g, cap, cur, fr, rfl, _⟩
  · exact ⟨_, _, rfl⟩
  · exact ⟨_, _, rfl⟩

theorem RowM.cells {w : World} {base e size n : Nat} {v : Value} {xs : List Value} (h : RowM w base e size v n xs) {g : Nat} (hg : v.ownBlock = some g) : ∀ j u, xs[j]? = some u → w.cell? ⟨g, j, none⟩ = some u := by
  intro j u hu
  rcases h.2 with ⟨rfl, _⟩ | ⟨g', cap, cur, fr, rfl, _, hgg, _, _, _, _, htake⟩
  · simp [Value.ownBlock] at hg
  · simp [Value.ownBlock] at hg
    subst hg
    rw [cell_of_row w g' j cur e fr hgg]
    rw [← htake, List.getElem?_take] at hu
    split at hu
    · simpa using hu
    · cases hu

theorem setCell_heap (w : World) (g o : Nat) (cur : Array Value) (e : TypeId) (fr : Nat × Nat) (v : Value) (h : w.heap[g]? = some (.cells cur e fr)) :
    (w.setCell ⟨g, o, none⟩ v).heap[g]? = some (.cells (cur.setIfInBounds o v) e fr) := by
  obtain ⟨hlt, hg⟩ := Array.getElem?_eq_some_iff.1 h
  simp [World.setCell, hlt, Array.getElem_modify, hg]

theorem setCells_heap (g : Nat) (e : TypeId) (fr : Nat × Nat) : ∀ (vs : List Value) (o : Nat) (w : World) (cur : Array Value), w.heap[g]? = some (.cells cur e fr) → o + vs.length ≤ cur.size →
    ∃ cur', (w.setCells g o vs).heap[g]? = some (.cells cur' e fr) ∧ cur'.size = cur.size ∧ cur'.toList.take (o + vs.length) = cur.toList.take o ++ vs
  | [], o, w, cur, h, _ => ⟨cur, h, rfl, by simp⟩
  | v :: r, o, w, cur, h, hl => by
    simp only [List.length_cons] at hl
    obtain ⟨cur', h1, h2, h3⟩ := setCells_heap g e fr r (o + 1) (w.setCell ⟨g, o, none⟩ v) (cur.setIfInBounds o v) (setCell_heap w g o cur e fr v h) (by simp; omega)
    refine ⟨cur', h1, by simpa using h2, ?_⟩
    rw [show o + (v :: r).length = o + 1 + r.length by simp; omega, h3]
    have : (cur.setIfInBounds o v).toList.take (o + 1) = cur.toList.take o ++ [v] := by
      rw [List.take_succ_eq_append_getElem (by simp; omega)]
      simp [List.take_set]
      exact List.set_eq_of_length_le (by simp; omega)
    rw [this]
    simp

theorem setCells_grown (g : Nat) (vs : List Value) (o : Nat) (w : World) : w.grownBy (w.setCells g o vs) (some g) := by
  induction vs generalizing o w with
  | nil => exact World.grownBy.refl w _
  | cons v r ih =>
    have h := ih (o + 1) (w.setCell ⟨g, o, none⟩ v)
    have hs : (w.setCell ⟨g, o, none⟩ v).heap.size = w.heap.size := by simp [World.setCell]
    refine ⟨h.os, h.tape, h.output, by have := h.size; rw [hs] at this; exact this, fun k hk hr => ?_⟩
    exact (h.block k (by rw [hs]; exact hk) hr).trans (Below.heap_setCell w _ v k (fun e => hr (by rw [e])))

section
variable {P : Program}

/-- APPEND ONTO A ROW OF THE CALL's OWN, FROM WHATEVER SOURCE. -/
theorem run_append_rowM (w : World) (base : Nat) (t tx ty e : TypeId) (i : TypeInfo) (z : Value) (size bytes : Nat) (ht : P.underlying t = some (.slice e)) (hi : P.info? e = some i) (hz : i.zero = some z)
    (hsize : i.size = size) (hby : i.bytes = bytes) (hzs : z.cells.size = size)
    (v : Value) (n : Nat) (xs : List Value) (hown : RowM w base e size v n xs)
    (x : Value) (m : Nat) (news : List Value) (hs : Src P size tx x m news w)
    (h63 : n + m ≤ maxLen) (hbytes : (n + m) * bytes ≤ 140737488355328) (hbase : base ≤ w.heap.size) :
    ∃ v' w', (Builtin.append_ #[t, tx] ty #[v, x]).run P w = .ok v' w' ∧ RowM w' base e size v' (n + m) (xs ++ news) ∧ w.grownBy w' v.ownBlock ∧ (v'.ownBlock = v.ownBlock ∨ v'.ownBlock = some w.heap.size) := by
  subst hsize
  subst hby
  have hsmall : n + m ≤ 9223372036854775807 := by simp only [maxLen] at h63; omega
  have hlen : (xs ++ news).length = (n + m) * i.size := by rw [List.length_append, hown.1, hs.newsLen, Nat.add_mul]
  have grown : ∀ (old : Nat), old < n + m → ∀ (row : Option Nat),
      RowM (w.drew.alloc (.cells ((xs ++ news).toArray ++ Builtin.zeroCells z.cells (grownCap w (n + m) old e - (n + m))) e)) base e i.size
        (.slice (some ⟨w.heap.size, 0, none⟩) (n + m) (grownCap w (n + m) old e)) (n + m) (xs ++ news) ∧
      w.grownBy (w.drew.alloc (.cells ((xs ++ news).toArray ++ Builtin.zeroCells z.cells (grownCap w (n + m) old e - (n + m))) e)) row := by
    intro old ho row
    have hge := grownCap_ge w (n + m) old e
    have hcm : grownCap w (n + m) old e ≤ maxLen := grownCap_le_maxLen w (n + m) old e h63
    refine ⟨⟨hlen, .inr ⟨w.heap.size, _, _, (0, 0), rfl, hbase, heap_alloc_new w.drew _, .inl rfl, hge, hcm, ?_, ?_⟩⟩, ⟨rfl, rfl, rfl, by simp, fun k hk _ => Below.heap_alloc w.drew _ k hk⟩⟩
    · simp only [Array.size_append, List.size_toArray, size_zeroCells, hzs, hlen, ← Nat.add_mul]
      congr 1
      omega
    · simp only [Array.toList_append]
      rw [← hlen]
      exact List.take_left
  by_cases hm0 : m = 0
  · subst hm0
    have hn : news = [] := List.eq_nil_of_length_eq_zero (by simpa using hs.newsLen)
    subst hn
    rcases hown.2 with ⟨rfl, rfl⟩ | ⟨g, cap, cur, fr, rfl, hbg, hg, hfr, hnc, hcm, hcs, htake⟩
    · exact ⟨_, w, run_append_nothing w t tx ty e i ht hi none 0 0 (Nat.le_refl _) x hs, by simpa using hown, World.grownBy.refl w _, .inl rfl⟩
    · exact ⟨_, w, run_append_nothing w t tx ty e i ht hi _ n cap hnc x hs, by simpa using hown, World.grownBy.refl w _, .inl rfl⟩
  · rcases hown.2 with ⟨rfl, rfl⟩ | ⟨g, cap, cur, fr, rfl, hbg, hg, hfr, hnc, hcm, hcs, htake⟩
    · have hx : xs = [] := List.eq_nil_of_length_eq_zero (by simpa using hown.1)
      subst hx
      have hr := run_append_grow_src (P := P) w t tx ty e i z ht hi hz none 0 0 [] (run_firstCells_none w.drew i.size 0 0 0) x m news hs (by omega) (by omega) (growslice_fits (by omega) hbytes)
      have hgr := grown 0 (by omega) (Value.ownBlock (.slice none 0 0))
      exact ⟨_, _, hr, hgr.1, hgr.2, .inr rfl⟩
    · by_cases hroom : n + m ≤ cap
      · have hfit : n * i.size + news.length ≤ cur.size := by rw [hs.newsLen, hcs, ← Nat.add_mul]; exact Nat.mul_le_mul_right _ hroom
        have hr := run_append_room_src (P := P) w t tx ty e i ht hi g 0 n cap x m news hs hroom
          (fun j hj => by rw [cell_of_row w g _ cur e fr hg]; simp; omega)
          (fun j hj => by
            unfold World.frozen?
            rw [hg]
            obtain ⟨lo, hi'⟩ := fr
            rcases hfr with h | h
            · cases h; simp
            · simp only [Bool.and_eq_false_iff, decide_eq_false_iff_not]
              left
              have : lo ≥ cur.size := h
              show ¬ lo ≤ 0 + n * i.size + j
              omega)
        obtain ⟨cur', h1, h2, h3⟩ := setCells_heap g e fr news (0 + n * i.size) w cur hg (by omega)
        refine ⟨_, _, hr, ⟨hlen, .inr ⟨g, cap, cur', fr, rfl, hbg, h1, ?_, hroom, hcm, by rw [h2]; exact hcs, ?_⟩⟩, setCells_grown g news _ w, .inl rfl⟩
        · rw [h2]; exact hfr
        · rw [← hlen, List.length_append, hown.1, ← Nat.zero_add (n * i.size), h3, Nat.zero_add, htake]
      · have hold := run_firstCells_some (P := P) w.drew i.size n ⟨g, 0, none⟩ n cap xs hown.1 (fun j u hu => by
          have hadd : (⟨g, 0, none⟩ : Addr).add j = ⟨g, j, none⟩ := by unfold Addr.add; split <;> simp_all
          rw [hadd]
          exact RowM.cells hown (g := g) rfl j u hu)
        have hr := run_append_grow_src (P := P) w t tx ty e i z ht hi hz (some ⟨g, 0, none⟩) n cap xs hold x m news hs (by omega) (by omega) (growslice_fits (by omega) hbytes)
        have hgr := grown cap (by omega) (Value.ownBlock (.slice (some ⟨g, 0, none⟩) n cap))
        exact ⟨_, _, hr, hgr.1, hgr.2, .inr rfl⟩

theorem wpList_append_rowM (w : World) {ops : Array Oper} {rest : List Oper} {o : Oper} {a : Act} {Q : Exit → Act → World → Prop} (hgd : o.guard = none) (s y : Operand) (t tx : TypeId)
    (ho : o.op = .call { callee := .builtin .append, args := #[s, y], argTypes := #[t, tx] })
    (base : Nat) (e : TypeId) (i : TypeInfo) (z : Value) (size bytes : Nat) (ht : P.underlying t = some (.slice e)) (hi : P.info? e = some i) (hz : i.zero = some z)
    (hsize : i.size = size) (hby : i.bytes = bytes) (hzs : z.cells.size = size)
    (v : Value) (n : Nat) (xs : List Value) (hsv : a.eval s = v) (hown : RowM w base e size v n xs)
    (x : Value) (m : Nat) (news : List Value) (hx : a.eval y = x) (hs : Src P size tx x m news w)
    (h63 : n + m ≤ maxLen) (hbytes : (n + m) * bytes ≤ 140737488355328) (hbase : base ≤ w.heap.size)
    (h : ∀ v' w', RowM w' base e size v' (n + m) (xs ++ news) → w.grownBy w' v.ownBlock → (v'.ownBlock = v.ownBlock ∨ v'.ownBlock = some w.heap.size) → wpList P ops Q rest (a.put o.dst v') w') : wpList P ops Q (o :: rest) a w := by
  obtain ⟨v', w', hr, h2, h3, h4⟩ := run_append_rowM (P := P) w base t tx o.type e i z size bytes ht hi hz hsize hby hzs v n xs hown x m news hs h63 hbytes hbase
  refine wpList_plain hgd fun K hK => ?_
  unfold Oper.wp execOp
  simp only [ho, resolve, invoke, builtin, Sem.run_bind, Sem.run_pure, Result.andThen_ok, List.map_toArray, List.map_cons, List.map_nil, hsv, hx, hr]
  exact hK _ _ (h v' w' h2 h3 h4)

end
end Go.Proofs.YbulkaxhmFmt
