/-
  Rows that the call owns, side by side; what an append, a store, a new block make of them; a law for regions that draw their order. No project text.
-/
import Derived.Test.YbulkaxksFmtRows
import Derived.WalkKit
import Derived.Deep.AppendSrc
import Derived.Deep.Upon
import Derived.Deep.AppendLies
import Derived.OrdersHeld
import Derived.Deep.RegionWith
import Derived.Deep.RegionHeld3
import Derived.Deep.DeepCutAuto
import Derived.Deep.QuietTactic
import Derived.BigQuiet
import Derived.WalkSpells
import Derived.WalkLawsBesides
set_option linter.unusedVariables false
set_option linter.unusedSimpArgs false
namespace Go.Proofs.YbulkaxksFmt
open Go.RowKit

def RowM (w : World) (base : Nat) (e : TypeId) (size : Nat) (v : Value) (n : Nat) (xs : List Value) : Prop :=
  xs.length = n * size ∧ ((v = .slice none 0 0 ∧ n = 0) ∨
   ∃ g cap cur fr, v = .slice (some ⟨g, 0, none⟩) n cap ∧ base ≤ g ∧ w.heap[g]? = some (.cells cur e fr) ∧ (fr = (0, 0) ∨ cur.size ≤ fr.1) ∧ n ≤ cap ∧ cap ≤ maxLen ∧ cur.size = cap * size ∧ cur.toList.take (n * size) = xs)

theorem RowM.of_owns {w : World} {base e size n : Nat} {v : Value} {xs : List Value} (h : w.ownsRow base e size v n xs) : RowM w base e size v n xs := by
  refine ⟨h.1, ?_⟩
  rcases h.2 with h0 | ⟨g, cap, cur, h1, h2, h3, h4⟩
  · exact .inl h0
  · exact .inr ⟨g, cap, cur, (0, 0), h1, h2, h3, .inl rfl, h4⟩

theorem RowM.lt {w : World} {base e size n : Nat} {v : Value} {xs : List Value} (h : RowM w base e size v n xs) : ∀ k, v.ownBlock = some k → base ≤ k ∧ k < w.heap.size := by
  intro k hk
  rcases h.2 with ⟨rfl, _⟩ | ⟨g, cap, cur, fr, rfl, hb, hg, _⟩
  · simp [Value.ownBlock] at hk
  · simp [Value.ownBlock] at hk
    subst hk
    exact ⟨hb, (Array.getElem?_eq_some_iff.1 hg).1⟩

theorem RowM.kept {w w' : World} {base e size n : Nat} {v : Value} {xs : List Value} {row : Option Nat} (h : RowM w base e size v n xs) (hg : w.grownBy w' row) (hne : v.ownBlock = none ∨ v.ownBlock ≠ row) : RowM w' base e size v n xs := by
  refine ⟨h.1, ?_⟩
  rcases h.2 with hn | ⟨g, cap, cur, fr, rfl, hb, hgg, rest⟩
  · exact .inl hn
  · refine .inr ⟨g, cap, cur, fr, rfl, hb, ?_, rest⟩
    rw [hg.block g (Array.getElem?_eq_some_iff.1 hgg).1 (by simpa [Value.ownBlock] using hne)]
    exact hgg

theorem RowM.below {w w' : World} {base e size n B : Nat} {v : Value} {xs : List Value} (h : RowM w base e size v n xs) (hb : Below B w w') (hlt : ∀ k, v.ownBlock = some k → k < B) : RowM w' base e size v n xs := by
  refine ⟨h.1, ?_⟩
  rcases h.2 with hn | ⟨g, cap, cur, fr, rfl, hb', hgg, rest⟩
  · exact .inl hn
  · refine .inr ⟨g, cap, cur, fr, rfl, hb', ?_, rest⟩
    rw [hb.block g (hlt g rfl)]
    exact hgg

theorem RowM.alloc {w : World} {base e size n : Nat} {v : Value} {xs : List Value} (h : RowM w base e size v n xs) (o : Obj) : RowM (w.alloc o) base e size v n xs :=
  h.kept (World.grownBy_alloc w o none) (by cases hv : v.ownBlock <;> simp)

theorem RowM.base_le {w : World} {base base' e size n : Nat} {v : Value} {xs : List Value} (h : RowM w base e size v n xs) (hb : base' ≤ base) : RowM w base' e size v n xs := by
  refine ⟨h.1, ?_⟩
  rcases h.2 with hn | ⟨g, cap, cur, fr, rfl, hb', rest⟩
  · exact .inl hn
  · exact .inr ⟨g, cap, cur, fr, rfl, by omega, rest⟩

theorem RowM.form {w : World} {base e size n : Nat} {v : Value} {xs : List Value} (h : RowM w base e size v n xs) : ∃ ao cap, v = .slice ao n cap := by
  rcases h.2 with ⟨rfl, rfl⟩ | ⟨g, cap, cur, fr, rfl, _⟩
  · exact ⟨_, _, rfl⟩
  · exact ⟨_, _, rfl⟩

theorem RowM.cells {w : World} {base e size n : Nat} {v : Value} {xs : List Value} (h : RowM w base e size v n xs) {g : Nat} (hg : v.ownBlock = some g) : ∀ j u, xs[j]? = some u → w.cell? ⟨g, j, none⟩ = some u := by
  intro j u hu
  rcases h.2 with ⟨rfl, _⟩ | ⟨g', cap, cur, fr, rfl, _, hgg, _, _, _, _, htake⟩
  · simp [Value.ownBlock] at hg
  · simp [Value.ownBlock] at hg
    subst hg
    rw [cell_of_row w g' j cur e fr hgg]
    rw [← htake, List.getElem?_take] at hu
    split at hu
    · simpa using hu
    · cases hu

theorem setCell_heap (w : World) (g o : Nat) (cur : Array Value) (e : TypeId) (fr : Nat × Nat) (v : Value) (h : w.heap[g]? = some (.cells cur e fr)) :
    (w.setCell ⟨g, o, none⟩ v).heap[g]? = some (.cells (cur.setIfInBounds o v) e fr) := by
  obtain ⟨hlt, hg⟩ := Array.getElem?_eq_some_iff.1 h
  simp [World.setCell, hlt, Array.getElem_modify, hg]

theorem setCells_heap (g : Nat) (e : TypeId) (fr : Nat × Nat) : ∀ (vs : List Value) (o : Nat) (w : World) (cur : Array Value), w.heap[g]? = some (.cells cur e fr) → o + vs.length ≤ cur.size →
    ∃ cur', (w.setCells g o vs).heap[g]? = some (.cells cur' e fr) ∧ cur'.size = cur.size ∧ cur'.toList.take (o + vs.length) = cur.toList.take o ++ vs
  | [], o, w, cur, h, _ => ⟨cur, h, rfl, by simp⟩
  | v :: r, o, w, cur, h, hl => by
    simp only [List.length_cons] at hl
    obtain ⟨cur', h1, h2, h3⟩ := setCells_heap g e fr r (o + 1) (w.setCell ⟨g, o, none⟩ v) (cur.setIfInBounds o v) (setCell_heap w g o cur e fr v h) (by simp; omega)
    refine ⟨cur', h1, by simpa using h2, ?_⟩
    rw [show o + (v :: r).length = o + 1 + r.length by simp; omega, h3]
    have : (cur.setIfInBounds o v).toList.take (o + 1) = cur.toList.take o ++ [v] := by
      rw [List.take_succ_eq_append_getElem (by simp; omega)]
      simp [List.take_set]
      exact List.set_eq_of_length_le (by simp; omega)
    rw [this]
    simp

theorem setCells_grown (g : Nat) (vs : List Value) (o : Nat) (w : World) : w.grownBy (w.setCells g o vs) (some g) := by
  induction vs generalizing o w with
  | nil => exact World.grownBy.refl w _
  | cons v r ih =>
    have h := ih (o + 1) (w.setCell ⟨g, o, none⟩ v)
    have hs : (w.setCell ⟨g, o, none⟩ v).heap.size = w.heap.size := by simp [World.setCell]
    refine ⟨h.os, h.tape, h.output, by have := h.size; rw [hs] at this; exact this, fun k hk hr => ?_⟩
    exact (h.block k (by rw [hs]; exact hk) hr).trans (Below.heap_setCell w _ v k (fun e => hr (by rw [e])))

section
variable {P : Program}

/-- APPEND ONTO A ROW OF THE CALL's OWN, FROM WHATEVER SOURCE. -/
theorem run_append_rowM (w : World) (base : Nat) (t tx ty e : TypeId) (i : TypeInfo) (z : Value) (size bytes : Nat) (ht : P.underlying t = some (.slice e)) (hi : P.info? e = some i) (hz : i.zero = some z)
    (hsize : i.size = size) (hby : i.bytes = bytes) (hzs : z.cells.size = size)
    (v : Value) (n : Nat) (xs : List Value) (hown : RowM w base e size v n xs)
    (x : Value) (m : Nat) (news : List Value) (hs : Src P size tx x m news w)
    (h63 : n + m ≤ maxLen) (hbytes : (n + m) * bytes ≤ 140737488355328) (hbase : base ≤ w.heap.size) :
    ∃ v' w', (Builtin.append_ #[t, tx] ty #[v, x]).run P w = .ok v' w' ∧ RowM w' base e size v' (n + m) (xs ++ news) ∧ w.grownBy w' v.ownBlock ∧ (v'.ownBlock = v.ownBlock ∨ v'.ownBlock = some w.heap.size) := by
  subst hsize
  subst hby
  have hsmall : n + m ≤ 9223372036854775807 := by simp only [maxLen] at h63; omega
  have hlen : (xs ++ news).length = (n + m) * i.size := by rw [List.length_append, hown.1, hs.newsLen, Nat.add_mul]
  have grown : ∀ (old : Nat), old < n + m → ∀ (row : Option Nat),
      RowM (w.drew.alloc (.cells ((xs ++ news).toArray ++ Builtin.zeroCells z.cells (grownCap w (n + m) old e - (n + m))) e)) base e i.size
        (.slice (some ⟨w.heap.size, 0, none⟩) (n + m) (grownCap w (n + m) old e)) (n + m) (xs ++ news) ∧
      w.grownBy (w.drew.alloc (.cells ((xs ++ news).toArray ++ Builtin.zeroCells z.cells (grownCap w (n + m) old e - (n + m))) e)) row := by
    intro old ho row
    have hge := grownCap_ge w (n + m) old e
    have hcm : grownCap w (n + m) old e ≤ maxLen := grownCap_le_maxLen w (n + m) old e h63
    refine ⟨⟨hlen, .inr ⟨w.heap.size, _, _, (0, 0), rfl, hbase, heap_alloc_new w.drew _, .inl rfl, hge, hcm, ?_, ?_⟩⟩, ⟨rfl, rfl, rfl, by simp, fun k hk _ => Below.heap_alloc w.drew _ k hk⟩⟩
    · simp only [Array.size_append, List.size_toArray, size_zeroCells, hzs, hlen, ← Nat.add_mul]
      congr 1
      omega
    · simp only [Array.toList_append]
      rw [← hlen]
      exact List.take_left
  by_cases hm0 : m = 0
  · subst hm0
    have hn : news = [] := List.eq_nil_of_length_eq_zero (by simpa using hs.newsLen)
    subst hn
    rcases hown.2 with ⟨rfl, rfl⟩ | ⟨g, cap, cur, fr, rfl, hbg, hg, hfr, hnc, hcm, hcs, htake⟩
    · exact ⟨_, w, run_append_nothing w t tx ty e i ht hi none 0 0 (Nat.le_refl _) x hs, by simpa using hown, World.grownBy.refl w _, .inl rfl⟩
    · exact ⟨_, w, run_append_nothing w t tx ty e i ht hi _ n cap hnc x hs, by simpa using hown, World.grownBy.refl w _, .inl rfl⟩
  · rcases hown.2 with ⟨rfl, rfl⟩ | ⟨g, cap, cur, fr, rfl, hbg, hg, hfr, hnc, hcm, hcs, htake⟩
    · have hx : xs = [] := List.eq_nil_of_length_eq_zero (by simpa using hown.1)
      subst hx
      have hr := run_append_grow_src (P := P) w t tx ty e i z ht hi hz none 0 0 [] (run_firstCells_none w.drew i.size 0 0 0) x m news hs (by omega) (by omega) (growslice_fits (by omega) hbytes)
      have hgr := grown 0 (by omega) (Value.ownBlock (.slice none 0 0))
      exact ⟨_, _, hr, hgr.1, hgr.2, .inr rfl⟩
    · by_cases hroom : n + m ≤ cap
      · have hfit : n * i.size + news.length ≤ cur.size := by rw [hs.newsLen, hcs, ← Nat.add_mul]; exact Nat.mul_le_mul_right _ hroom
        have hr := run_append_room_src (P := P) w t tx ty e i ht hi g 0 n cap x m news hs hroom
          (fun j hj => by rw [cell_of_row w g _ cur e fr hg]; simp; omega)
          (fun j hj => by
            unfold World.frozen?
            rw [hg]
            obtain ⟨lo, hi'⟩ := fr
            rcases hfr with h | h
            · cases h; simp
            · simp only [Bool.and_eq_false_iff, decide_eq_false_iff_not]
              left
              have : lo ≥ cur.size := h
              show ¬ lo ≤ 0 + n * i.size + j
              omega)
        obtain ⟨cur', h1, h2, h3⟩ := setCells_heap g e fr news (0 + n * i.size) w cur hg (by omega)
        refine ⟨_, _, hr, ⟨hlen, .inr ⟨g, cap, cur', fr, rfl, hbg, h1, ?_, hroom, hcm, by rw [h2]; exact hcs, ?_⟩⟩, setCells_grown g news _ w, .inl rfl⟩
        · rw [h2]; exact hfr
        · rw [← hlen, List.length_append, hown.1, ← Nat.zero_add (n * i.size), h3, Nat.zero_add, htake]
      · have hold := run_firstCells_some (P := P) w.drew i.size n ⟨g, 0, none⟩ n cap xs hown.1 (fun j u hu => by
          have hadd : (⟨g, 0, none⟩ : Addr).add j = ⟨g, j, none⟩ := by unfold Addr.add; split <;> simp_all
          rw [hadd]
          exact RowM.cells hown (g := g) rfl j u hu)
        have hr := run_append_grow_src (P := P) w t tx ty e i z ht hi hz (some ⟨g, 0, none⟩) n cap xs hold x m news hs (by omega) (by omega) (growslice_fits (by omega) hbytes)
        have hgr := grown cap (by omega) (Value.ownBlock (.slice (some ⟨g, 0, none⟩) n cap))
        exact ⟨_, _, hr, hgr.1, hgr.2, .inr rfl⟩

theorem wpList_append_rowM (w : World) {ops : Array Oper} {rest : List Oper} {o : Oper} {a : Act} {Q : Exit → Act → World → Prop} (hgd : o.guard = none) (s y : Operand) (t tx : TypeId)
    (ho : o.op = .call { callee := .builtin .append, args := #[s, y], argTypes := #[t, tx] })
    (base : Nat) (e : TypeId) (i : TypeInfo) (z : Value) (size bytes : Nat) (ht : P.underlying t = some (.slice e)) (hi : P.info? e = some i) (hz : i.zero = some z)
    (hsize : i.size = size) (hby : i.bytes = bytes) (hzs : z.cells.size = size)
    (v : Value) (n : Nat) (xs : List Value) (hsv : a.eval s = v) (hown : RowM w base e size v n xs)
    (x : Value) (m : Nat) (news : List Value) (hx : a.eval y = x) (hs : Src P size tx x m news w)
    (h63 : n + m ≤ maxLen) (hbytes : (n + m) * bytes ≤ 140737488355328) (hbase : base ≤ w.heap.size)
    (h : ∀ v' w', RowM w' base e size v' (n + m) (xs ++ news) → w.grownBy w' v.ownBlock → (v'.ownBlock = v.ownBlock ∨ v'.ownBlock = some w.heap.size) → wpList P ops Q rest (a.put o.dst v') w') : wpList P ops Q (o :: rest) a w := by
  obtain ⟨v', w', hr, h2, h3, h4⟩ := run_append_rowM (P := P) w base t tx o.type e i z size bytes ht hi hz hsize hby hzs v n xs hown x m news hs h63 hbytes hbase
  refine wpList_plain hgd fun K hK => ?_
  unfold Oper.wp execOp
  simp only [ho, resolve, invoke, builtin, Sem.run_bind, Sem.run_pure, Result.andThen_ok, List.map_toArray, List.map_cons, List.map_nil, hsv, hx, hr]
  exact hK _ _ (h v' w' h2 h3 h4)

end


theorem grown_alloc {w w1 : World} {o : Obj} {row : Option Nat} (h : (w.alloc o).grownBy w1 row) : w.grownBy w1 row := by
  refine ⟨h.os, h.tape, h.output, ?_, fun k hk hr => ?_⟩
  · have := h.size; simp at this; omega
  · exact (h.block k (by simp; omega) hr).trans (Below.heap_alloc w o k hk)
theorem news_alloc (w : World) (cs : List Value) (t : TypeId) : ∀ j u, cs[j]? = some u → (w.alloc (.cells cs.toArray t)).cell? ((⟨w.heap.size, 0, none⟩ : Addr).add j) = some u :=
  World.news_of_block (cs := cs.toArray) (heap_alloc_new w _)
theorem add_zero_off (g j : Nat) : (⟨g, 0, none⟩ : Addr).add j = ⟨g, j, none⟩ := by unfold Addr.add; split <;> simp_all
theorem cell_old {w : World} {a : Addr} {v : Value} (h : w.cell? a = some v) : ∀ o, (w.alloc o).cell? a = some v := fun o =>
  (World.cell?_of_block (Below.heap_alloc w o a.block (World.block_lt_of_cell? w a h))).trans h

/-- Every old cell is as it was, but for those of the block 'row' from 'n' on. -/
def KeptUpTo (w w' : World) (row : Option Nat) (n : Nat) : Prop := ∀ a : Addr, a.block < w.heap.size → (row = some a.block → a.off < n) → w'.cell? a = w.cell? a

section
variable {P : Program}

/-- APPEND ONTO A ROW OF THE CALL's OWN, FROM WHATEVER SOURCE. -/
theorem run_append_rowK (w : World) (base : Nat) (t tx ty e : TypeId) (i : TypeInfo) (z : Value) (size bytes : Nat) (ht : P.underlying t = some (.slice e)) (hi : P.info? e = some i) (hz : i.zero = some z)
    (hsize : i.size = size) (hby : i.bytes = bytes) (hzs : z.cells.size = size)
    (v : Value) (n : Nat) (xs : List Value) (hown : RowM w base e size v n xs)
    (x : Value) (m : Nat) (news : List Value) (hs : Src P size tx x m news w)
    (h63 : n + m ≤ maxLen) (hbytes : (n + m) * bytes ≤ 140737488355328) (hbase : base ≤ w.heap.size) :
    ∃ v' w', (Builtin.append_ #[t, tx] ty #[v, x]).run P w = .ok v' w' ∧ RowM w' base e size v' (n + m) (xs ++ news) ∧ w.grownBy w' v.ownBlock ∧ (v'.ownBlock = v.ownBlock ∨ v'.ownBlock = some w.heap.size) ∧ KeptUpTo w w' v.ownBlock (n * size) ∧ (0 < m → v'.ownBlock ≠ none) := by
  subst hsize
  subst hby
  have hsmall : n + m ≤ 9223372036854775807 := by simp only [maxLen] at h63; omega
  have hlen : (xs ++ news).length = (n + m) * i.size := by rw [List.length_append, hown.1, hs.newsLen, Nat.add_mul]
  have grown : ∀ (old : Nat), old < n + m → ∀ (row : Option Nat),
      RowM (w.drew.alloc (.cells ((xs ++ news).toArray ++ Builtin.zeroCells z.cells (grownCap w (n + m) old e - (n + m))) e)) base e i.size
        (.slice (some ⟨w.heap.size, 0, none⟩) (n + m) (grownCap w (n + m) old e)) (n + m) (xs ++ news) ∧
      w.grownBy (w.drew.alloc (.cells ((xs ++ news).toArray ++ Builtin.zeroCells z.cells (grownCap w (n + m) old e - (n + m))) e)) row := by
    intro old ho row
    have hge := grownCap_ge w (n + m) old e
    have hcm : grownCap w (n + m) old e ≤ maxLen := grownCap_le_maxLen w (n + m) old e h63
    refine ⟨⟨hlen, .inr ⟨w.heap.size, _, _, (0, 0), rfl, hbase, heap_alloc_new w.drew _, .inl rfl, hge, hcm, ?_, ?_⟩⟩, ⟨rfl, rfl, rfl, by simp, fun k hk _ => Below.heap_alloc w.drew _ k hk⟩⟩
    · simp only [Array.size_append, List.size_toArray, size_zeroCells, hzs, hlen, ← Nat.add_mul]
      congr 1
      omega
    · simp only [Array.toList_append]
      rw [← hlen]
      exact List.take_left
  by_cases hm0 : m = 0
  · subst hm0
    have hn : news = [] := List.eq_nil_of_length_eq_zero (by simpa using hs.newsLen)
    subst hn
    rcases hown.2 with ⟨rfl, rfl⟩ | ⟨g, cap, cur, fr, rfl, hbg, hg, hfr, hnc, hcm, hcs, htake⟩
    · exact ⟨_, w, run_append_nothing w t tx ty e i ht hi none 0 0 (Nat.le_refl _) x hs, by simpa using hown, World.grownBy.refl w _, .inl rfl, fun _ _ _ => rfl, fun h => absurd h (Nat.lt_irrefl _)⟩
    · exact ⟨_, w, run_append_nothing w t tx ty e i ht hi _ n cap hnc x hs, by simpa using hown, World.grownBy.refl w _, .inl rfl, fun _ _ _ => rfl, fun h => absurd h (Nat.lt_irrefl _)⟩
  · rcases hown.2 with ⟨rfl, rfl⟩ | ⟨g, cap, cur, fr, rfl, hbg, hg, hfr, hnc, hcm, hcs, htake⟩
    · have hx : xs = [] := List.eq_nil_of_length_eq_zero (by simpa using hown.1)
      subst hx
      have hr := run_append_grow_src (P := P) w t tx ty e i z ht hi hz none 0 0 [] (run_firstCells_none w.drew i.size 0 0 0) x m news hs (by omega) (by omega) (growslice_fits (by omega) hbytes)
      have hgr := grown 0 (by omega) (Value.ownBlock (.slice none 0 0))
      exact ⟨_, _, hr, hgr.1, hgr.2, .inr rfl, fun a ha _ => World.cell?_of_block (Below.heap_alloc w.drew _ a.block ha), fun _ => by simp [Value.ownBlock]⟩
    · by_cases hroom : n + m ≤ cap
      · have hfit : n * i.size + news.length ≤ cur.size := by rw [hs.newsLen, hcs, ← Nat.add_mul]; exact Nat.mul_le_mul_right _ hroom
        have hr := run_append_room_src (P := P) w t tx ty e i ht hi g 0 n cap x m news hs hroom
          (fun j hj => by rw [cell_of_row w g _ cur e fr hg]; simp; omega)
          (fun j hj => by
            unfold World.frozen?
            rw [hg]
            obtain ⟨lo, hi'⟩ := fr
            rcases hfr with h | h
            · cases h; simp
            · simp only [Bool.and_eq_false_iff, decide_eq_false_iff_not]
              left
              have : lo ≥ cur.size := h
              show ¬ lo ≤ 0 + n * i.size + j
              omega)
        obtain ⟨cur', h1, h2, h3⟩ := setCells_heap g e fr news (0 + n * i.size) w cur hg (by omega)
        refine ⟨_, _, hr, ⟨hlen, .inr ⟨g, cap, cur', fr, rfl, hbg, h1, ?_, hroom, hcm, by rw [h2]; exact hcs, ?_⟩⟩, setCells_grown g news _ w, .inl rfl, fun a ha hlt => World.cell?_setCells_out g news _ w a (fun h1 _ => .inl (by have := hlt (by rw [h1]; rfl); omega)), fun _ => by simp [Value.ownBlock]⟩
        · rw [h2]; exact hfr
        · rw [← hlen, List.length_append, hown.1, ← Nat.zero_add (n * i.size), h3, Nat.zero_add, htake]
      · have hold := run_firstCells_some (P := P) w.drew i.size n ⟨g, 0, none⟩ n cap xs hown.1 (fun j u hu => by
          have hadd : (⟨g, 0, none⟩ : Addr).add j = ⟨g, j, none⟩ := by unfold Addr.add; split <;> simp_all
          rw [hadd]
          exact RowM.cells hown (g := g) rfl j u hu)
        have hr := run_append_grow_src (P := P) w t tx ty e i z ht hi hz (some ⟨g, 0, none⟩) n cap xs hold x m news hs (by omega) (by omega) (growslice_fits (by omega) hbytes)
        have hgr := grown cap (by omega) (Value.ownBlock (.slice (some ⟨g, 0, none⟩) n cap))
        exact ⟨_, _, hr, hgr.1, hgr.2, .inr rfl, fun a ha _ => World.cell?_of_block (Below.heap_alloc w.drew _ a.block ha), fun _ => by simp [Value.ownBlock]⟩


theorem wpList_append_rowK (w : World) {ops : Array Oper} {rest : List Oper} {o : Oper} {a : Act} {Q : Exit → Act → World → Prop} (hgd : o.guard = none) (s y : Operand) (t tx : TypeId)
    (ho : o.op = .call { callee := .builtin .append, args := #[s, y], argTypes := #[t, tx] })
    (base : Nat) (e : TypeId) (i : TypeInfo) (z : Value) (size bytes : Nat) (ht : P.underlying t = some (.slice e)) (hi : P.info? e = some i) (hz : i.zero = some z)
    (hsize : i.size = size) (hby : i.bytes = bytes) (hzs : z.cells.size = size)
    (v : Value) (n : Nat) (xs : List Value) (hsv : a.eval s = v) (hown : RowM w base e size v n xs)
    (x : Value) (m : Nat) (news : List Value) (hx : a.eval y = x) (hs : Src P size tx x m news w)
    (h63 : n + m ≤ maxLen) (hbytes : (n + m) * bytes ≤ 140737488355328) (hbase : base ≤ w.heap.size)
    (h : ∀ v' w', RowM w' base e size v' (n + m) (xs ++ news) → w.grownBy w' v.ownBlock → (v'.ownBlock = v.ownBlock ∨ v'.ownBlock = some w.heap.size) → KeptUpTo w w' v.ownBlock (n * size) → (0 < m → v'.ownBlock ≠ none) → wpList P ops Q rest (a.put o.dst v') w') : wpList P ops Q (o :: rest) a w := by
  obtain ⟨v', w', hr, h2, h3, h4, h5, h6⟩ := run_append_rowK (P := P) w base t tx o.type e i z size bytes ht hi hz hsize hby hzs v n xs hown x m news hs h63 hbytes hbase
  refine wpList_plain hgd fun K hK => ?_
  unfold Oper.wp execOp
  simp only [ho, resolve, invoke, builtin, Sem.run_bind, Sem.run_pure, Result.andThen_ok, List.map_toArray, List.map_cons, List.map_nil, hsv, hx, hr]
  exact hK _ _ (h v' w' h2 h3 h4 h5 h6)
end

/-! ### Rows side by side -/

structure RowS where
  e : TypeId
  size : Nat
  v : Value
  n : Nat
  xs : List Value

def RowS.at (r : RowS) (w : World) (base : Nat) : Prop := RowM w base r.e r.size r.v r.n r.xs

def Apart (a b : RowS) : Prop := a.v.ownBlock = none ∨ a.v.ownBlock ≠ b.v.ownBlock

structure Own (w : World) (base : Nat) (L : List RowS) : Prop where
  rows : ∀ i (hi : i < L.length), (L[i]).at w base
  apart : ∀ i j (hi : i < L.length) (hj : j < L.length), i ≠ j → Apart L[i] L[j]

theorem Own.nil (w : World) (base : Nat) : Own w base [] := ⟨fun i hi => absurd hi (Nat.not_lt_zero _), fun i j hi => absurd hi (Nat.not_lt_zero _)⟩

theorem Own.get {w : World} {base : Nat} {L : List RowS} (h : Own w base L) (i : Nat) {r : RowS} (hr : L[i]? = some r) : r.at w base := by
  obtain ⟨hi, rfl⟩ := List.getElem?_eq_some_iff.1 hr
  exact h.rows i hi

theorem Own.alloc {w : World} {base : Nat} {L : List RowS} (h : Own w base L) (o : Obj) : Own (w.alloc o) base L := ⟨fun i hi => RowM.alloc (h.rows i hi) o, h.apart⟩

/-- Nothing old is written. -/
theorem Own.grown {w w' : World} {base : Nat} {L : List RowS} (h : Own w base L) (hg : w.grownBy w' none) : Own w' base L :=
  ⟨fun i hi => RowM.kept (h.rows i hi) hg (by cases (L[i]).v.ownBlock <;> simp), h.apart⟩

/-- One row is turned, all others stay. -/
theorem Own.set {w w' : World} {base : Nat} {L : List RowS} (h : Own w base L) (i : Nat) {r r' : RowS} (hr : L[i]? = some r) (hr' : r'.at w' base) (hg : w.grownBy w' r.v.ownBlock)
    (hat : r'.v.ownBlock = r.v.ownBlock ∨ ∃ k, r'.v.ownBlock = some k ∧ w.heap.size ≤ k) : Own w' base (L.set i r') := by
  obtain ⟨hi, rfl⟩ := List.getElem?_eq_some_iff.1 hr
  have fresh : ∀ j (hj : j < L.length), j ≠ i → Apart r' L[j] := by
    intro j hj hne
    rcases hat with h1 | ⟨k, h1, h2⟩
    · unfold Apart; rw [h1]; exact h.apart i j hi hj (fun e => hne e.symm)
    · right
      rw [h1]
      intro e
      have := (RowM.lt (h.rows j hj) k e.symm).2
      omega
  have fresh2 : ∀ j (hj : j < L.length), j ≠ i → Apart L[j] r' := by
    intro j hj hne
    rcases fresh j hj hne with h1 | h1
    · cases hv : (L[j]).v.ownBlock with
      | none => exact .inl hv
      | some k => right; rw [hv, h1]; simp
    · exact .inr (fun e => h1 e.symm)
  refine ⟨fun j hj => ?_, fun j k hj hk hne => ?_⟩
  · rw [List.length_set] at hj
    by_cases hji : j = i
    · subst hji; rw [List.getElem_set_self]; exact hr'
    · rw [List.getElem_set_ne (fun e => hji e.symm)]
      refine RowM.kept (h.rows j hj) hg ?_
      exact h.apart j i hj hi hji
  · have hj' : j < L.length := by simpa using hj
    have hk' : k < L.length := by simpa using hk
    by_cases hji : j = i
    · subst hji
      rw [List.getElem_set_self, List.getElem_set_ne hne]
      exact fresh k hk' (fun e => hne e.symm)
    · rw [List.getElem_set_ne (fun e => hji e.symm)]
      by_cases hki : k = i
      · subst hki; rw [List.getElem_set_self]; exact fresh2 j hj' hji
      · rw [List.getElem_set_ne (fun e => hki e.symm)]
        exact h.apart j k hj' hk' hne

/-- A new row in a new block. -/
theorem Own.cons {w w' : World} {base : Nat} {L : List RowS} (h : Own w base L) {r : RowS} (hr : r.at w' base) (hg : w.grownBy w' none) (hat : ∀ k, r.v.ownBlock = some k → w.heap.size ≤ k) : Own w' base (r :: L) := by
  have h' := h.grown hg
  have fresh : ∀ j (hj : j < L.length), Apart r L[j] := by
    intro j hj
    cases hv : r.v.ownBlock with
    | none => exact .inl hv
    | some k =>
      right
      rw [hv]
      intro e
      have := (RowM.lt (h.rows j hj) k e.symm).2
      have := hat k hv
      omega
  refine ⟨fun j hj => ?_, fun j k hj hk hne => ?_⟩
  · cases j with
    | zero => exact hr
    | succ j => exact h'.rows j (by simpa using hj)
  · cases j with
    | zero =>
      cases k with
      | zero => exact absurd rfl hne
      | succ k => exact fresh k (by simpa using hk)
    | succ j =>
      cases k with
      | zero =>
        have hj' : j < L.length := by simpa using hj
        have hf := fresh j hj'
        show Apart L[j] r
        rcases hf with h1 | h1
        · cases hv : (L[j]).v.ownBlock with
          | none => exact .inl hv
          | some k => right; rw [hv, h1]; simp
        · exact .inr (fun e => h1 e.symm)
      | succ k => exact h.apart j k (by simpa using hj) (by simpa using hk) (by omega)

theorem Own.tail {w : World} {base : Nat} {r : RowS} {L : List RowS} (h : Own w base (r :: L)) : Own w base L :=
  ⟨fun i hi => h.rows (i + 1) (by simpa using hi), fun i j hi hj hne => h.apart (i + 1) (j + 1) (by simpa using hi) (by simpa using hj) (by omega)⟩

theorem Own.below {w w' : World} {base : Nat} {L : List RowS} (h : Own w base L) {i : Nat} {r : RowS} (hr : L[i]? = some r) (hg : w.grownBy w' r.v.ownBlock) {w0 : World} (hb : Below base w0 w) (hs : base ≤ w.heap.size) : Below base w0 w' :=
  hb.grown hg hs (fun k hk => (RowM.lt (h.get i hr) k hk).1)

theorem kept_alloc {w w1 : World} {o : Obj} {row : Option Nat} {n : Nat} (h : KeptUpTo (w.alloc o) w1 row n) : KeptUpTo w w1 row n := fun a ha hr =>
  (h a (by simp; omega) hr).trans (World.cell?_of_block (Below.heap_alloc w o a.block ha))

/-- A cell that no step on the rows of L will write: it lies in none of their blocks, or in the used part of a row of strings. -/
def Safe (L : List RowS) (a : Addr) : Prop := ∀ i (hi : i < L.length), (L[i]).v.ownBlock = some a.block → (L[i]).e = 9 ∧ a.off < (L[i]).n ∧ (L[i]).size = 1

structure Goes (B : Nat) (w : World) (L : List RowS) (w' : World) (L' : List RowS) : Prop where
  own : Own w' B L'
  safe : ∀ a v, w.cell? a = some v → Safe L a → w'.cell? a = some v ∧ Safe L' a
  below : Below B w w'
  size : B ≤ w'.heap.size

theorem Goes.refl {B : Nat} {w : World} {L : List RowS} (h : Own w B L) (hs : B ≤ w.heap.size) : Goes B w L w L := ⟨h, fun a v h1 h2 => ⟨h1, h2⟩, Below.refl _ _, hs⟩
theorem Goes.trans {B : Nat} {w w1 w2 : World} {L L1 L2 : List RowS} (h : Goes B w L w1 L1) (k : Goes B w1 L1 w2 L2) : Goes B w L w2 L2 :=
  ⟨k.own, fun a v h1 h2 => let ⟨x, y⟩ := h.safe a v h1 h2; k.safe a v x y, h.below.trans k.below, k.size⟩

theorem Goes.grown {B : Nat} {w w1 w2 : World} {L L1 : List RowS} (h : Goes B w L w1 L1) (hg : w1.grownBy w2 none) : Goes B w L w2 L1 :=
  ⟨h.own.grown hg, fun a v h1 h2 => let ⟨x, y⟩ := h.safe a v h1 h2; ⟨hg.cell x (by simp), y⟩, h.below.grown hg h.size (fun k hk => by cases hk), Nat.le_trans h.size hg.size⟩

theorem Goes.alloc {B : Nat} {w w1 : World} {L L1 : List RowS} (h : Goes B w L w1 L1) (o : Obj) : Goes B w L (w1.alloc o) L1 := h.grown (World.grownBy_alloc w1 o none)

theorem Goes.drewN {B : Nat} {w w1 : World} {L L1 : List RowS} (h : Goes B w L w1 L1) (n : Nat) : Goes B w L (w1.drewN n) L1 :=
  h.grown ⟨rfl, rfl, rfl, Nat.le_refl _, fun _ _ _ => rfl⟩

theorem grownN (w : World) (n : Nat) : w.grownBy (w.drewN n) none := ⟨rfl, rfl, rfl, Nat.le_refl _, fun _ _ _ => rfl⟩

/-- A row is turned: all that is safe stays. -/
theorem Goes.row {B : Nat} {w w1 w2 : World} {L L1 : List RowS} (h : Goes B w L w1 L1) (i : Nat) {r r' : RowS} (hr : L1[i]? = some r) (hr' : r'.at w2 B) (hg : w1.grownBy w2 r.v.ownBlock)
    (hat : r'.v.ownBlock = r.v.ownBlock ∨ ∃ k, r'.v.ownBlock = some k ∧ w1.heap.size ≤ k) (he : r'.e = r.e) (hsz : r'.size = r.size) (hn : r.n ≤ r'.n)
    (hk : r.e = 9 → KeptUpTo w1 w2 r.v.ownBlock r.n) : Goes B w L w2 (L1.set i r') := by
  refine ⟨h.own.set i hr hr' hg hat, fun a v h1 h2 => ?_, h.own.below hr hg h.below h.size, Nat.le_trans h.size hg.size⟩
  obtain ⟨x, y⟩ := h.safe a v h1 h2
  obtain ⟨hi, hri⟩ := List.getElem?_eq_some_iff.1 hr
  have hlt := World.block_lt_of_cell? w1 a x
  refine ⟨?_, fun j hj hb => ?_⟩
  · by_cases hb : r.v.ownBlock = some a.block
    · have := y i hi (by rw [hri]; exact hb)
      rw [hri] at this
      rw [hk this.1 a hlt (fun _ => this.2.1)]
      exact x
    · exact hg.cell x (fun e => hb e.symm)
  · have hj' : j < L1.length := by simpa using hj
    by_cases hji : j = i
    · subst hji
      rw [List.getElem_set_self] at hb ⊢
      rcases hat with h3 | ⟨k, h3, h4⟩
      · have := y j hi (by rw [hri, ← h3]; exact hb)
        rw [hri] at this
        exact ⟨by rw [he]; exact this.1, by have := this.2.1; omega, by rw [hsz]; exact this.2.2⟩
      · rw [h3] at hb; injection hb with hb; omega
    · rw [List.getElem_set_ne (fun e => hji e.symm)] at hb ⊢
      exact y j hj' hb

/-- An append onto a row of the list. -/
theorem Goes.app {B : Nat} {w w1 w2 : World} {L L1 : List RowS} {o : Obj} (h : Goes B w L w1 L1) (i : Nat) {e size n m : Nat} {v v' : Value} {xs news : List Value} (hr : L1[i]? = some ⟨e, size, v, n, xs⟩)
    (h1 : RowM w2 B e size v' (n + m) (xs ++ news)) (h2 : (w1.alloc o).grownBy w2 v.ownBlock) (h3 : v'.ownBlock = v.ownBlock ∨ v'.ownBlock = some (w1.heap.size + 1)) (h4 : KeptUpTo (w1.alloc o) w2 v.ownBlock (n * size)) (hs : e = 9 → size = 1) :
    Goes B w L w2 (L1.set i ⟨e, size, v', n + m, xs ++ news⟩) := by
  refine h.row i hr h1 (grown_alloc h2) ?_ rfl rfl (by simp) (fun he => ?_)
  · rcases h3 with h3 | h3
    · exact .inl h3
    · exact .inr ⟨_, h3, by omega⟩
  · have := kept_alloc h4
    rw [hs he] at this
    simpa using this

/-- A new row in a new block. -/
theorem Goes.cons {B : Nat} {w w1 w2 : World} {L L1 : List RowS} (h : Goes B w L w1 L1) {r : RowS} (hr : r.at w2 B) (hg : w1.grownBy w2 none) (hat : ∀ k, r.v.ownBlock = some k → w1.heap.size ≤ k) : Goes B w L w2 (r :: L1) := by
  refine ⟨h.own.cons hr hg hat, fun a v h1 h2 => ?_, h.below.grown hg h.size (fun k hk => by cases hk), Nat.le_trans h.size hg.size⟩
  obtain ⟨x, y⟩ := h.safe a v h1 h2
  have hlt := World.block_lt_of_cell? w1 a x
  refine ⟨hg.cell x (by simp), fun j hj hb => ?_⟩
  cases j with
  | zero =>
    have := hat a.block hb
    omega
  | succ j => exact y j (by simpa using hj) hb

/-- A row is let go. -/
theorem Goes.tail {B : Nat} {w w1 : World} {L L1 : List RowS} {r : RowS} (h : Goes B w L w1 (r :: L1)) : Goes B w L w1 L1 :=
  ⟨h.own.tail, fun a v h1 h2 => let ⟨x, y⟩ := h.safe a v h1 h2; ⟨x, fun j hj hb => y (j + 1) (by simpa using hj) hb⟩, h.below, h.size⟩

/-- A box: a block of its own with its cells. -/
def box (e g : Nat) (xs : List Value) : RowS := ⟨e, xs.length, .slice (some ⟨g, 0, none⟩) 1 1, 1, xs⟩

theorem box_new (w : World) (B e : Nat) (xs : List Value) (hB : B ≤ w.heap.size) : (box e w.heap.size xs).at (w.alloc (.cells xs.toArray e)) B :=
  ⟨by simp [box], .inr ⟨w.heap.size, 1, xs.toArray, (0, 0), rfl, hB, heap_alloc_new w _, .inl rfl, Nat.le_refl _, by decide, by simp [box], by simp [box]⟩⟩

theorem Own.box_cell {w : World} {B : Nat} {L : List RowS} (h : Own w B L) (i : Nat) {e g : Nat} {xs : List Value} (hr : L[i]? = some (box e g xs)) (j : Nat) {u : Value} (hu : xs[j]? = some u) : w.cell? ⟨g, j, none⟩ = some u :=
  RowM.cells (h.get i hr) (g := g) rfl j u hu

theorem RowM.unfrozen {w : World} {base e size n : Nat} {v : Value} {xs : List Value} (h : RowM w base e size v n xs) {g : Nat} (hg : v.ownBlock = some g) : ∀ j, j < n * size → w.frozen? ⟨g, j, none⟩ = false := by
  intro j hj
  rcases h.2 with ⟨rfl, _⟩ | ⟨g', cap, cur, fr, rfl, _, hgg, hfr, hnc, _, hcs, htake⟩
  · simp [Value.ownBlock] at hg
  · simp [Value.ownBlock] at hg
    subst hg
    have hle : n * size ≤ cap * size := Nat.mul_le_mul_right _ hnc
    unfold World.frozen?
    rw [hgg]
    obtain ⟨lo, hi⟩ := fr
    rcases hfr with h | h
    · cases h; simp
    · simp only [Bool.and_eq_false_iff, decide_eq_false_iff_not]
      left
      have : lo ≥ cur.size := h
      show ¬ lo ≤ j
      omega

theorem Own.box_frozen {w : World} {B : Nat} {L : List RowS} (h : Own w B L) (i : Nat) {e g : Nat} {xs : List Value} (hr : L[i]? = some (box e g xs)) (j : Nat) (hj : j < xs.length) : w.frozen? ⟨g, j, none⟩ = false :=
  RowM.unfrozen (h.get i hr) (g := g) rfl j (by simpa [box] using hj)

theorem grown_setCell (w : World) (g j : Nat) (u : Value) : w.grownBy (w.setCell ⟨g, j, none⟩ u) (some g) :=
  ⟨rfl, rfl, rfl, by simp [World.setCell], fun k hk hr => Below.heap_setCell w _ u k (fun e => hr (by rw [e]))⟩

/-- A store into a box. -/
theorem Goes.setBox {B : Nat} {w w1 : World} {L L1 : List RowS} (h : Goes B w L w1 L1) (i : Nat) {e g : Nat} {xs : List Value} (hr : L1[i]? = some (box e g xs)) (he : e ≠ 9) (j : Nat) (hj : j < xs.length) (u : Value) :
    Goes B w L (w1.setCell ⟨g, j, none⟩ u) (L1.set i (box e g (xs.set j u))) := by
  refine h.row i hr ?_ (grown_setCell w1 g j u) (.inl rfl) rfl (by simp [box]) (Nat.le_refl _) (fun h => absurd h he)
  have hrow := h.own.get i hr
  rcases hrow.2 with ⟨h0, _⟩ | ⟨g', cap, cur, fr, hv, hb, hgg, hfr, hnc, hcm, hcs, htake⟩
  · simp [box] at h0
  · simp only [box, Value.slice.injEq, Option.some.injEq, Addr.mk.injEq] at hv
    obtain ⟨⟨rfl, _, _⟩, _, rfl⟩ := hv
    refine ⟨by simp [box], .inr ⟨g, 1, cur.setIfInBounds j u, fr, rfl, hb, setCell_heap w1 g j cur e fr u hgg, by simpa using hfr, Nat.le_refl _, by decide, by simpa [box] using hcs, ?_⟩⟩
    simp only [box, Nat.one_mul] at htake ⊢
    rw [List.length_set, Array.toList_setIfInBounds, List.take_set, htake]

/-- A row of one-cell elements. -/
def rowOf (e : TypeId) (v : Value) (xs : List Value) : RowS := ⟨e, 1, v, xs.length, xs⟩

theorem row_nil (w : World) (B e : Nat) : (rowOf e (.slice none 0 0) []).at w B := ⟨rfl, .inl ⟨rfl, rfl⟩⟩

theorem Goes.nilRow {B : Nat} {w w1 : World} {L L1 : List RowS} (h : Goes B w L w1 L1) (e : TypeId) : Goes B w L w1 (rowOf e (.slice none 0 0) [] :: L1) :=
  h.cons (row_nil w1 B e) (World.grownBy.refl w1 none) (fun k hk => by simp [rowOf, Value.ownBlock] at hk)

theorem Goes.drew {B : Nat} {w w1 : World} {L L1 : List RowS} (h : Goes B w L w1 L1) : Goes B w L w1.drew L1 := h.grown ⟨rfl, rfl, rfl, Nat.le_refl _, fun _ _ _ => rfl⟩

/-- An append of new elements that lie in a block laid for them. -/
theorem Goes.push {B : Nat} {w w1 w2 : World} {L L1 : List RowS} {o : Obj} (h : Goes B w L w1 L1) (i : Nat) {e m : Nat} {v v' : Value} {xs news : List Value} (hr : L1[i]? = some (rowOf e v xs)) (hm : news.length = m)
    (h1 : RowM w2 B e 1 v' (xs.length + m) (xs ++ news)) (h2 : (w1.alloc o).grownBy w2 v.ownBlock) (h3 : v'.ownBlock = v.ownBlock ∨ v'.ownBlock = some (w1.heap.size + 1)) (h4 : KeptUpTo (w1.alloc o) w2 v.ownBlock xs.length) :
    Goes B w L w2 (L1.set i (rowOf e v' (xs ++ news))) := by
  subst hm
  refine h.row i hr ?_ (grown_alloc h2) ?_ rfl rfl (by simp [rowOf]) (fun he => kept_alloc h4)
  · unfold RowS.at rowOf
    simp only [List.length_append]
    exact h1
  · rcases h3 with h3 | h3
    · exact .inl h3
    · exact .inr ⟨_, h3, by omega⟩

/-- An append from a source that lies elsewhere. -/
theorem Goes.pushS {B : Nat} {w w1 w2 : World} {L L1 : List RowS} (h : Goes B w L w1 L1) (i : Nat) {e m : Nat} {v v' : Value} {xs news : List Value} (hr : L1[i]? = some (rowOf e v xs)) (hm : news.length = m)
    (h1 : RowM w2 B e 1 v' (xs.length + m) (xs ++ news)) (h2 : w1.grownBy w2 v.ownBlock) (h3 : v'.ownBlock = v.ownBlock ∨ v'.ownBlock = some w1.heap.size) (h4 : KeptUpTo w1 w2 v.ownBlock xs.length) :
    Goes B w L w2 (L1.set i (rowOf e v' (xs ++ news))) := by
  subst hm
  refine h.row i hr ?_ h2 ?_ rfl rfl (by simp [rowOf]) (fun he => h4)
  · unfold RowS.at rowOf
    simp only [List.length_append]
    exact h1
  · rcases h3 with h3 | h3
    · exact .inl h3
    · exact .inr ⟨_, h3, by omega⟩

/-- The row of the list, for the append's law. -/
theorem Goes.rowAt {B : Nat} {w w1 : World} {L L1 : List RowS} (h : Goes B w L w1 L1) (i : Nat) {e : TypeId} {v : Value} {xs : List Value} (hr : L1[i]? = some (rowOf e v xs)) : RowM w1 B e 1 v xs.length xs := h.own.get i hr

/-- A store into a row. -/
theorem Goes.setAt {B : Nat} {w w1 : World} {L L1 : List RowS} (h : Goes B w L w1 L1) (i : Nat) {e g n cap : Nat} {xs : List Value} (hr : L1[i]? = some (rowOf e (.slice (some ⟨g, 0, none⟩) n cap) xs)) (he : e ≠ 9) (j : Nat) (u : Value) :
    Goes B w L (w1.setCell ⟨g, j, none⟩ u) (L1.set i (rowOf e (.slice (some ⟨g, 0, none⟩) n cap) (xs.set j u))) := by
  refine h.row i hr ?_ (grown_setCell w1 g j u) (.inl rfl) rfl rfl (by simp [rowOf]) (fun h => absurd h he)
  have hrow := h.own.get i hr
  rcases hrow.2 with ⟨h0, _⟩ | ⟨g', cap', cur, fr, hv, hb, hgg, hfr, hnc, hcm, hcs, htake⟩
  · simp [rowOf] at h0
  · simp only [rowOf, Value.slice.injEq, Option.some.injEq, Addr.mk.injEq] at hv
    obtain ⟨⟨rfl, _, _⟩, rfl, rfl⟩ := hv
    refine ⟨by simp [rowOf], .inr ⟨g, cap, cur.setIfInBounds j u, fr, by simp [rowOf], hb, setCell_heap w1 g j cur e fr u hgg, by simpa using hfr, by simpa [rowOf] using hnc, hcm, by simpa [rowOf] using hcs, ?_⟩⟩
    simp only [rowOf, Nat.mul_one] at htake ⊢
    rw [List.length_set, Array.toList_setIfInBounds, List.take_set, htake]

theorem Goes.cellAt {B : Nat} {w w1 : World} {L L1 : List RowS} (h : Goes B w L w1 L1) (i : Nat) {e g n cap : Nat} {xs : List Value} (hr : L1[i]? = some (rowOf e (.slice (some ⟨g, 0, none⟩) n cap) xs)) (j : Nat) {u : Value} (hu : xs[j]? = some u) :
    w1.cell? ⟨g, j, none⟩ = some u ∧ w1.frozen? ⟨g, j, none⟩ = false :=
  ⟨RowM.cells (h.own.get i hr) (g := g) rfl j u hu, RowM.unfrozen (h.own.get i hr) (g := g) rfl j (by have := (List.getElem?_eq_some_iff.1 hu).1; simpa [rowOf] using this)⟩

theorem Goes.pushR {B : Nat} {w w1 w2 : World} {L L1 : List RowS} (h : Goes B w L w1 L1) (i : Nat) {e size n m : Nat} {v v' : Value} {xs news : List Value} (hr : L1[i]? = some ⟨e, size, v, n, xs⟩)
    (h1 : RowM w2 B e size v' (n + m) (xs ++ news)) (h2 : w1.grownBy w2 v.ownBlock) (h3 : v'.ownBlock = v.ownBlock ∨ v'.ownBlock = some w1.heap.size) (h4 : KeptUpTo w1 w2 v.ownBlock (n * size)) (hs : e = 9 → size = 1) :
    Goes B w L w2 (L1.set i ⟨e, size, v', n + m, xs ++ news⟩) := by
  refine h.row i hr h1 h2 ?_ rfl rfl (by simp) (fun he => ?_)
  · rcases h3 with h3 | h3
    · exact .inl h3
    · exact .inr ⟨_, h3, by omega⟩
  · rw [hs he] at h4
    simpa using h4
theorem safe_new {w : World} {B : Nat} {L : List RowS} (h : Own w B L) (j : Nat) : Safe L ⟨w.heap.size, j, none⟩ := by
  intro i hi hb
  have := (RowM.lt (h.rows i hi) _ hb).2
  exact absurd this (Nat.lt_irrefl _)

theorem max_ok {n m : Nat} (h : n + m ≤ 100000000) : n + m ≤ maxLen := by unfold maxLen; omega
theorem bytes_ok {n m b : Nat} (h : n + m ≤ 100000000) (hb : b ≤ 100) : (n + m) * b ≤ 140737488355328 :=
  Nat.le_trans (Nat.mul_le_mul h hb) (by decide)

theorem Below.cellK {w w' : World} (h : Below w.heap.size w w') {a : Addr} {v : Value} (hc : w.cell? a = some v) : w'.cell? a = some v := (h.cell (World.block_lt_of_cell? w a hc)).trans hc

theorem RowM.addr {w : World} {B e size n n' c : Nat} {a : Option Addr} {xs : List Value} (h : RowM w B e size (.slice a n' c) n xs) (h0 : 0 < n) : ∃ g, a = some ⟨g, 0, none⟩ ∧ ∀ j u, xs[j]? = some u → w.cell? ⟨g, j, none⟩ = some u := by
  rcases h.2 with ⟨_, hn⟩ | ⟨g, cap, cur, fr, hv, _⟩
  · omega
  · injection hv with h1 h2 h3
    subst h1
    exact ⟨g, rfl, fun j u hu => RowM.cells h (g := g) rfl j u hu⟩

theorem Own.belowAll {w w' : World} {B : Nat} {L : List RowS} (h : Own w B L) (hb : Below w.heap.size w w') : Own w' B L :=
  ⟨fun i hi => RowM.below (h.rows i hi) hb (fun k hk => (RowM.lt (h.rows i hi) k hk).2), h.apart⟩


section
variable {P : Program} {ops : Array Oper} {Q : Exit → Act → World → Prop} {md : Region.Mode} {S S0 : World → Prop} {ks : List Nat}

/-- Whatever order is picked; every operation keeps S0; every operation but those of 'ks' keeps S. -/
def wpTill (P : Program) (md : Region.Mode) (ops : Array Oper) (Q : Exit → Act → World → Prop) (S S0 : World → Prop) (ks : List Nat) : Nat → Array Bool → Act → World → Prop
  | 0, listed, a, w => Region.ready md ops listed = [] ∧ Q .normal a w
  | fuel + 1, listed, a, w =>
    (Region.ready md ops listed = [] → Q .normal a w) ∧
    ∀ i ∈ Region.ready md ops listed, wpOp P ops Q i (fun a' w' => ((i ∈ ks ∨ (S w → S w')) ∧ (S0 w → S0 w')) ∧ wpTill P md ops Q S S0 ks fuel (listed.setIfInBounds i true) a' w') a w

theorem wpAny_of_till : ∀ (fuel : Nat) (listed : Array Bool) (a : Act) (w : World), wpTill P md ops Q S S0 ks fuel listed a w → wpAny P md ops Q fuel listed a w
  | 0, _, _, _, h => h
  | fuel + 1, _, _, _, h => ⟨h.1, fun i hi => wpOp_mono (fun a' w' h' => wpAny_of_till fuel _ a' w' h'.2) (h.2 i hi)⟩

theorem wp_region_till {id : Nat} {a : Act} {w : World} (hm : P.follows .mixedOrders = true) (S S0 : World → Prop) (ks : List Nat) (n : Nat) (hn : ops.size = n)
    (h : wpTill P .any ops Q S S0 ks n (Array.replicate n false) a w.drew) : (Code.region id ops true).wp P Q a w :=
  wp_region_any hm (by rw [hn]; exact wpAny_of_till _ _ _ _ h)

/-- Does operation 'k' wait for 'i'? -/
def waits (md : Region.Mode) (ops : Array Oper) (k i : Nat) : Bool := match ops[k]? with | some o => o.after.any (fun e => Region.binds md e && e.on == i) | none => false

/-- THE LAW, for S and S0 at once: 'T' is a condition that every operation keeps that may come ahead of 'i'. -/
theorem wpTill_law {T : World → Prop} {i : Nat} {oi : Oper} {v : Value} (hi : ops[i]? = some oi) (hsel : ∀ (j : Nat) (o : Oper) cs b, ops[j]? = some o → o.op ≠ .select cs b)
    (hQ : ∀ c a w, Q (.panic c) (a.put oi.dst v) w → Q (.panic c) a w)
    (hT : ∀ j w w', waits md ops j i = false → ((j ∈ ks ∨ (S w → S w')) ∧ (S0 w → S0 w')) → T w → T w') :
    ∀ (fuel : Nat) (listed : Array Bool) (a : Act) (w : World),
      (∀ j oj, ops[j]? = some oj → j ≠ i → listed.getD j true = false → (∀ e ∈ oj.after, Region.binds md e = true → e.on ≠ i) → oi.apart ops oj = true) →
      i ∈ Region.ready md ops listed → YieldsIf P ops T oi v a → T w →
      wpTill P md ops Q S S0 ks fuel (listed.setIfInBounds i true) (a.put oi.dst v) w → wpTill P md ops Q S S0 ks (fuel + 1) listed a w := by
  intro fuel
  induction fuel with
  | zero =>
    intro listed a w _ hr hy hS H
    refine ⟨fun h => (by rw [h] at hr; cases hr), fun j hj => ?_⟩
    by_cases hji : j = i
    · subst hji; exact hy.wpOp hi hS ⟨⟨.inr id, id⟩, H⟩
    · have := ready_mono hj hji
      rw [H.1] at this
      cases this
  | succ fuel ih =>
    intro listed a w hfree hr hy hS H
    refine ⟨fun h => (by rw [h] at hr; cases hr), fun j hj => ?_⟩
    by_cases hji : j = i
    · subst hji; exact hy.wpOp hi hS ⟨⟨.inr id, id⟩, H⟩
    · have h1 := H.2 j (ready_mono hj hji)
      obtain ⟨hjun, oj, hoj, hall⟩ := mem_ready.1 hj
      have hnot : ∀ e ∈ oj.after, Region.binds md e = true → e.on ≠ i := fun e he hb heq => by
        have h1 := hall e he hb
        have h0 := (mem_ready.1 hr).1
        rw [heq] at h1
        rcases Nat.lt_or_ge i listed.size with h' | h'
        · simp [h'] at h0 h1; rw [h0] at h1; cases h1
        · simp [Array.getElem?_eq_none h'] at h1
      have hw : waits md ops j i = false := by
        cases hk : waits md ops j i with
        | false => rfl
        | true =>
          unfold waits at hk
          rw [hoj] at hk
          simp only [Array.any_eq_true'] at hk
          obtain ⟨e, he, hb⟩ := hk
          simp only [Bool.and_eq_true, beq_iff_eq] at hb
          exact absurd hb.2 (hnot e he hb.1)
      have h2 := wpOp_putIf hoj (hfree j oj hoj hji hjun hnot) (fun cs b => hsel i oi cs b hi) (fun cs b => hsel j oj cs b hoj) hQ hy h1
      have hfree' : ∀ k' ok, ops[k']? = some ok → k' ≠ i → (listed.setIfInBounds j true).getD k' true = false →
          (∀ e ∈ ok.after, Region.binds md e = true → e.on ≠ i) → oi.apart ops ok = true := fun k' ok hk' hki hun hno => by
        refine hfree k' ok hk' hki ?_ hno
        by_cases hjk' : j = k'
        · subst hjk'; exact hjun
        · rw [getD_set_ne true hjk'] at hun; exact hun
      refine wpOp_mono (fun a' w' h3 => ?_) h2
      refine ⟨h3.2.1, ih (listed.setIfInBounds j true) a' w' hfree' (ready_mono hr (Ne.symm hji)) h3.1 (hT j w w' hw h3.2.1 hS) ?_⟩
      rw [Array.setIfInBounds_comm _ _ hji]
      exact h3.2.2

/-- Take number 'i' first, under S: all of 'ks' wait for it. -/
theorem till_take (i : Nat) (d : Option Tmp) {oi : Oper} {v : Value} {fuel : Nat} {listed : Array Bool} {a : Act} {w : World} (hi : ops[i]? = some oi) (hd : oi.dst = d)
    (hs : Region.noSelect ops = true) (hf : Region.free md ops listed i = true) (hr : (Region.ready md ops listed).contains i = true) (hk : ks.all (fun k => waits md ops k i) = true)
    (hQ : ∀ c a w, Q (.panic c) (a.put oi.dst v) w → Q (.panic c) a w) (hy : YieldsIf P ops S oi v a) (hS : S w)
    (h : wpTill P md ops Q S S0 ks fuel (listed.setIfInBounds i true) (a.put d v) w) : wpTill P md ops Q S S0 ks (fuel + 1) listed a w := by
  subst hd
  refine wpTill_law hi (Region.noSelect_spec hs) hQ (fun j w w' hw hh hS => ?_) fuel listed a w (Region.free_spec hi hf) (by simpa using hr) hy hS h
  rcases hh.1 with hj | hj
  · have := List.all_eq_true.1 hk j hj
    rw [hw] at this
    cases this
  · exact hj hS

/-- Take number 'i' first, under S0. -/
theorem till_take0 (i : Nat) (d : Option Tmp) {oi : Oper} {v : Value} {fuel : Nat} {listed : Array Bool} {a : Act} {w : World} (hi : ops[i]? = some oi) (hd : oi.dst = d)
    (hs : Region.noSelect ops = true) (hf : Region.free md ops listed i = true) (hr : (Region.ready md ops listed).contains i = true)
    (hQ : ∀ c a w, Q (.panic c) (a.put oi.dst v) w → Q (.panic c) a w) (hy : YieldsIf P ops S0 oi v a) (hS : S0 w)
    (h : wpTill P md ops Q S S0 ks fuel (listed.setIfInBounds i true) (a.put d v) w) : wpTill P md ops Q S S0 ks (fuel + 1) listed a w := by
  subst hd
  exact wpTill_law hi (Region.noSelect_spec hs) hQ (fun j w w' hw hh hS => hh.2 hS) fuel listed a w (Region.free_spec hi hf) (by simpa using hr) hy hS h

/-- One operation alone may come up. -/
theorem till_one {i : Nat} {o : Oper} {fuel : Nat} {listed : Array Bool} {a : Act} {w : World} (hr : Region.ready md ops listed = [i]) (ho : ops[i]? = some o) (hg : o.guard = none)
    (h : ∀ K : Act → World → Prop, (∀ a' w', (i ∈ ks ∨ (S w → S w')) → (S0 w → S0 w') → wpTill P md ops Q S S0 ks fuel (listed.setIfInBounds i true) a' w' → K a' w') → Oper.wp P o a w K Q) : wpTill P md ops Q S S0 ks (fuel + 1) listed a w := by
  refine ⟨fun h0 => (by rw [h0] at hr; cases hr), fun j hj => ?_⟩
  rw [hr] at hj
  obtain rfl : j = i := by simpa using hj
  unfold wpOp
  rw [ho]
  have hw : Region.wanted o (yielded ops a.tmps) = true := by simp [Region.wanted, hg]
  simp only [hw, if_true]
  exact .inl (h _ fun a' w' h1 h1' h2 => ⟨⟨h1, h1'⟩, h2⟩)

theorem till_done {listed : Array Bool} {a : Act} {w : World} (hr : Region.ready md ops listed = []) (h : Q .normal a w) : ∀ fuel, wpTill P md ops Q S S0 ks fuel listed a w
  | 0 => ⟨hr, h⟩
  | _ + 1 => ⟨fun _ => h, by rw [hr]; simp⟩

/-- Append, as one operation. -/
theorem wp_append_rowK (w : World) {o : Oper} {a : Act} {K : Act → World → Prop} (hgd : o.guard = none) (s y : Operand) (t tx : TypeId)
    (ho : o.op = .call { callee := .builtin .append, args := #[s, y], argTypes := #[t, tx] })
    (base : Nat) (e : TypeId) (i : TypeInfo) (z : Value) (size bytes : Nat) (ht : P.underlying t = some (.slice e)) (hi : P.info? e = some i) (hz : i.zero = some z)
    (hsize : i.size = size) (hby : i.bytes = bytes) (hzs : z.cells.size = size)
    (v : Value) (n : Nat) (xs : List Value) (hsv : a.eval s = v) (hown : RowM w base e size v n xs)
    (x : Value) (m : Nat) (news : List Value) (hx : a.eval y = x) (hs : Src P size tx x m news w)
    (h63 : n + m ≤ maxLen) (hbytes : (n + m) * bytes ≤ 140737488355328) (hbase : base ≤ w.heap.size)
    (h : ∀ v' w', RowM w' base e size v' (n + m) (xs ++ news) → w.grownBy w' v.ownBlock → (v'.ownBlock = v.ownBlock ∨ v'.ownBlock = some w.heap.size) → KeptUpTo w w' v.ownBlock (n * size) → (0 < m → v'.ownBlock ≠ none) → K (a.put o.dst v') w') :
    Oper.wp P o a w K Q := by
  obtain ⟨v', w', hr, h2, h3, h4, h5, h6⟩ := run_append_rowK (P := P) w base t tx o.type e i z size bytes ht hi hz hsize hby hzs v n xs hown x m news hs h63 hbytes hbase
  unfold Oper.wp execOp
  simp only [ho, resolve, invoke, builtin, Sem.run_bind, Sem.run_pure, Result.andThen_ok, List.map_toArray, List.map_cons, List.map_nil, hsv, hx, hr]
  exact h v' w' h2 h3 h4 h5 h6
end


end Go.Proofs.YbulkaxksFmt
