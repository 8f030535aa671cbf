/-
  Plain facts for the walk of LawS2430BRoundTrip.
-/
import Derived.Test.YbulkaxhmFmtWell
import Derived.Test.YbulkaxhmFmtViews
import Derived.Test.YbulkaxhmFmtRowM
set_option linter.unusedVariables false
set_option linter.unusedSimpArgs false
namespace Go.Proofs
open Go.RowKit Go.Extern.Stop Go.Stop Go.Extern
theorem Ybaf.info23 : (Ybaf.prog.info? 23).map (fun i => (i.zero, i.size, i.bytes)) = some (some (.slice none 0 0), 1, 24) := by kernel_rfl
namespace YbulkaxhmFmt

def small (l : Lab) : Prop := l.oct.size ≤ 300 ∧ l.modes.length ≤ 300

def rawOf (l : Lab) : List UInt8 := l.oct.data.toList ++ List.replicate (l.pad % 80).toNat 97
def modeOf (l : Lab) (j : Nat) : Nat := if l.modes.length = 0 then 0 else (l.modes.getD (j % l.modes.length) 0).toNat
def itemOf (l : Lab) : List UInt8 × (Nat → Nat) := (rawOf l, modeOf l)
theorem items_fst (ls : List Lab) : (ls.map itemOf).map Prod.fst = ls.map rawOf := by simp [itemOf, Function.comp_def]

def badR (r : List UInt8) : Bool := r.length == 0 || decide (63 < r.length)
def badB (rs : List (List UInt8)) : Bool := rs.any badR
theorem badR_no {r : List UInt8} (h1 : 0 < r.length) (h2 : r.length ≤ 63) : badR r = false := by
  unfold badR; rw [beq_eq_false_iff_ne.2 (by omega), decide_eq_false (by omega)]; rfl
theorem badR_zero {r : List UInt8} (h1 : r.length = 0) : badR r = true := by
  unfold badR; rw [beq_iff_eq.2 h1]; rfl
theorem badR_long {r : List UInt8} (h1 : 63 < r.length) : badR r = true := by
  unfold badR; rw [decide_eq_true h1]; simp
theorem badB_snoc (rs : List (List UInt8)) (r : List UInt8) : badB (rs ++ [r]) = (badB rs || badR r) := by simp [badB]

theorem rawOf_length (l : Lab) : (rawOf l).length = l.oct.size + (l.pad % 80).toNat := by simp [rawOf]
theorem rawOf_le (l : Lab) (h : small l) (h0 : 0 ≤ l.pad) : (rawOf l).length ≤ 380 := by
  rw [rawOf_length]; have := h.1; omega

/-- A row of bytes that is there. -/
def RawAt (w : World) (v : Value) (l : List UInt8) : Prop :=
  ∃ g cap cur fr, v = .slice (some ⟨g, 0, none⟩) l.length cap ∧ w.heap[g]? = some (.cells cur 5 fr) ∧ cur.toList.take l.length = bvs l

theorem RawAt.kept {w w' : World} {v : Value} {l : List UInt8} {row : Option Nat} (h : RawAt w v l) (hg : w.grownBy w' row) (hne : v.ownBlock ≠ row) : RawAt w' v l := by
  obtain ⟨g, cap, cur, fr, rfl, hh, ht⟩ := h
  exact ⟨g, cap, cur, fr, rfl, by rw [hg.block g (Array.getElem?_eq_some_iff.1 hh).1 (by simpa [Value.ownBlock] using hne)]; exact hh, ht⟩
theorem RawAt.lt {w : World} {v : Value} {l : List UInt8} (h : RawAt w v l) : ∃ g, v.ownBlock = some g ∧ g < w.heap.size := by
  obtain ⟨g, cap, cur, fr, rfl, hh, ht⟩ := h
  exact ⟨g, rfl, (Array.getElem?_eq_some_iff.1 hh).1⟩
theorem RawAt.cell {w : World} {g n cap : Nat} {l : List UInt8} (h : RawAt w (.slice (some ⟨g, 0, none⟩) n cap) l) : ∀ j (hj : j < l.length), w.cell? ⟨g, j, none⟩ = some (.int .u8 (l[j].toNat : Int)) := by
  intro j hj
  obtain ⟨g', cap', cur, fr, hv, hh, ht⟩ := h
  injection hv with h1 h2 h3
  injection h1 with h1
  injection h1 with h1
  subst h1
  rw [cell_of_row w g j cur 5 fr hh]
  have h4 : (cur.toList.take l.length)[j]? = (bvs l)[j]? := by rw [ht]
  rw [List.getElem?_take, if_pos hj] at h4
  simp only [bvs, List.getElem?_map, List.getElem?_eq_getElem hj] at h4
  simpa [bv] using h4
theorem RawAt.form {w : World} {v : Value} {l : List UInt8} (h : RawAt w v l) : ∃ g cap, v = .slice (some ⟨g, 0, none⟩) l.length cap := by
  obtain ⟨g, cap, cur, fr, rfl, _⟩ := h
  exact ⟨g, cap, rfl⟩
theorem RawAt.string {w : World} {g cap : Nat} {l : List UInt8} (h : RawAt w (.slice (some ⟨g, 0, none⟩) l.length cap) l) :
    (convert 23 9 (.slice (some ⟨g, 0, none⟩) l.length cap)).run Ybaf.prog w = .ok (.string ⟨l.toArray⟩) w :=
  run_convert_bytes_back w 23 9 5 ⟨g, 0, none⟩ cap l Ybaf.underlying23 Ybaf.underlying5 Ybaf.underlying9 (fun j hj => by rw [add_zero_off]; exact h.cell j hj)
theorem RawAt.of_row {w : World} {base : Nat} {v : Value} {l : List UInt8} (h : RowM w base 5 1 v l.length (bvs l)) {g : Nat} (hv : v.ownBlock = some g) : RawAt w v l := by
  rcases h.2 with ⟨rfl, _⟩ | ⟨g', cap, cur, fr, rfl, _, hg, _, _, _, _, ht⟩
  · simp [Value.ownBlock] at hv
  · exact ⟨g', cap, cur, fr, rfl, hg, by simpa using ht⟩

theorem bytesRow_take (s : ByteArray) (cap : Nat) : (bytesRow s cap).toList.take (s.size * 1) = bvs s.data.toList := by
  unfold bytesRow
  rw [Array.toList_append, List.take_append_of_le_length (by simp)]
  rw [List.take_of_length_le (by simp)]
  simp [bvs]
  exact fun a _ => rfl

/-- '[]byte(s)'. -/
theorem conv_row (W : World) (s : ByteArray) (hs : s.size ≤ 300) : ∃ cap wp, (convert 9 23 (.string s)).run Ybaf.prog W = .ok (.slice (some ⟨W.heap.size, 0, none⟩) s.size cap) wp ∧
    RowM wp W.heap.size 5 1 (.slice (some ⟨W.heap.size, 0, none⟩) s.size cap) s.size (bvs s.data.toList) ∧ W.grownBy wp none := by
  refine ⟨_, _, run_bytes_of_string W 9 23 5 s Ybaf.underlying9 Ybaf.underlying23 Ybaf.underlying5, ?_, ⟨rfl, rfl, rfl, by simp, fun k hk _ => Below.heap_alloc W.drew _ k hk⟩⟩
  have hge := grownCap_ge W s.size 0 5
  refine ⟨by simp [bvs], .inr ⟨W.heap.size, _, _, _, rfl, Nat.le_refl _, heap_alloc_new W.drew _, .inr (Nat.le_refl _), hge, grownCap_le_maxLen W s.size 0 5 (by unfold maxLen; omega), ?_, bytesRow_take s _⟩⟩
  unfold bytesRow
  simp
  omega

theorem below_of_grown {w w' : World} {row : Option Nat} (hg : w.grownBy w' row) {B : Nat} (hB : ∀ k, row = some k → B ≤ k) (hs : B ≤ w.heap.size) : Below B w w' :=
  (Below.refl B w).grown hg hs hB

theorem grown_trans {a b c : World} {r1 r2 : Option Nat} (h1 : a.grownBy b r1) (h2 : b.grownBy c r2) (hr : r2 = r1 ∨ ∃ k, r2 = some k ∧ a.heap.size ≤ k) : a.grownBy c r1 := by
  refine ⟨h2.os.trans h1.os, h2.tape.trans h1.tape, h2.output.trans h1.output, Nat.le_trans h1.size h2.size, fun k hk hne => ?_⟩
  have : some k ≠ r2 := by
    rcases hr with hr | ⟨q, hr, hq⟩
    · rw [hr]; exact hne
    · rw [hr]; intro e; injection e with e; omega
  exact (h2.block k (Nat.lt_of_lt_of_le hk h1.size) this).trans (h1.block k hk hne)

/-- The loop over the padding. -/
def PadRel (wp : World) (Bq : Nat) (l : Lab) (rawv kv : Value) (wr : World) : Prop :=
  ∃ q : Nat, (q : Int) ≤ l.pad % 80 ∧ kv = .int .i64 q ∧ RowM wr Bq 5 1 rawv (l.oct.size + q) (bvs (l.oct.data.toList ++ List.replicate q 97)) ∧ rawv.ownBlock ≠ none ∧ Below Bq wp wr

/-- The loop over a label's octets. -/
def OctRel (w : World) (w3 : World) (l : Lab) (T : List UInt8) (tv0 tv jv : Value) (wr : World) : Prop :=
  ∃ j : Nat, j ≤ (rawOf l).length ∧ jv = .int .i64 j ∧ Bytes wr w.heap.size tv (T ++ spell (modeOf l) 0 ((rawOf l).take j)) ∧ w3.grownBy wr tv0.ownBlock ∧
    (tv.ownBlock = tv0.ownBlock ∨ ∃ b, tv.ownBlock = some b ∧ w3.heap.size ≤ b)

/-- The loop over the labels. -/
def RRel (w : World) (ls : List Lab) (tv rv wl bad i : Value) (wr : World) : Prop :=
  ∃ (k : Nat) (rvs : List Value) (wn : Nat) (bd : Bool) (T : List UInt8), k ≤ ls.length ∧ i = .int .i64 k ∧ wl = .int .i64 wn ∧ bad = .bool bd ∧
    Hid (wn = 1 + wireOf ((ls.take k).map rawOf) ∧ bd = badB ((ls.take k).map rawOf) ∧ T = textOf ((ls.take k).map itemOf)) ∧ wn ≤ 1 + 381 * k ∧ T.length ≤ 1521 * k ∧
    Bytes wr w.heap.size tv T ∧ wr.ownsRow w.heap.size 23 1 rv k rvs ∧
    Hid (∀ j (hj : j < rvs.length) (hj2 : j < ls.length), RawAt wr rvs[j] (rawOf ls[j]) ∧ rvs[j].ownBlock ≠ tv.ownBlock) ∧ Below w.heap.size w wr

theorem box_cells {wr wp : World} {s : ByteArray} {x : Int} {m : Value} (hgr : (wr.alloc (.cells #[.string s, .int .u8 x, m] 25)).grownBy wp none) :
    wp.cell? ⟨wr.heap.size, 1, none⟩ = some (.int .u8 x) ∧ wp.cell? ⟨wr.heap.size, 2, none⟩ = some m := by
  have h : wp.heap[wr.heap.size]? = some (.cells #[.string s, .int .u8 x, m] 25) := by
    rw [hgr.block wr.heap.size (by simp) (by simp)]
    exact heap_alloc_new wr _
  exact ⟨by rw [cell_of_row wp _ _ _ _ _ h]; rfl, by rw [cell_of_row wp _ _ _ _ _ h]; rfl⟩

theorem pad_step {wp wr w1 : World} {o : Obj} {Bq q : Nat} {l : Lab} {v v' : Value}
    (hrw : RowM wr Bq 5 1 v (l.oct.size + q) (bvs (l.oct.data.toList ++ List.replicate q 97))) (hb : Below Bq wp wr)
    (ho : RowM w1 Bq 5 1 v' (l.oct.size + q + 1) (bvs (l.oct.data.toList ++ List.replicate q 97) ++ [.int .u8 97])) (hg : (wr.alloc o).grownBy w1 v.ownBlock)
    (hat : v'.ownBlock = v.ownBlock ∨ v'.ownBlock = some (wr.heap.size + 1)) (hnn : v.ownBlock ≠ none) (hB : Bq ≤ wr.heap.size) :
    RowM w1 Bq 5 1 v' (l.oct.size + (q + 1)) (bvs (l.oct.data.toList ++ List.replicate (q + 1) 97)) ∧ v'.ownBlock ≠ none ∧ Below Bq wp w1 := by
  refine ⟨?_, ?_, hb.grown (grown_alloc hg) hB (fun k hk => (hrw.lt k hk).1)⟩
  · have e : bvs (l.oct.data.toList ++ List.replicate (q + 1) 97) = bvs (l.oct.data.toList ++ List.replicate q 97) ++ [.int .u8 97] := by
      rw [List.replicate_succ', ← List.append_assoc, bvs_append]
      rfl
    rw [e]
    exact ho
  · rcases hat with h | h
    · rw [h]; exact hnn
    · rw [h]; simp

theorem put_step {w3 wr w' : World} {u4 tv : Value} {g : Nat} (hg4 : w3.grownBy wr u4.ownBlock) (ht4 : tv.ownBlock = u4.ownBlock ∨ ∃ b, tv.ownBlock = some b ∧ w3.heap.size ≤ b)
    (hg : wr.grownBy w' tv.ownBlock) (hat : tv.ownBlock = some g ∨ wr.heap.size ≤ g) :
    ∀ n cap, w3.grownBy w' u4.ownBlock ∧ ((Value.slice (some ⟨g, 0, none⟩) n cap).ownBlock = u4.ownBlock ∨ ∃ b, (Value.slice (some ⟨g, 0, none⟩) n cap).ownBlock = some b ∧ w3.heap.size ≤ b) := by
  intro n cap
  refine ⟨grown_trans hg4 hg ht4, ?_⟩
  rcases hat with h | h
  · rcases ht4 with h4 | ⟨b, h4, hb⟩
    · left; rw [← h4, h]; rfl
    · right
      rw [h4] at h
      injection h with h
      exact ⟨g, rfl, by omega⟩
  · right
    exact ⟨g, rfl, by have := hg4.size; omega⟩

theorem grown_of_below {w w' : World} (h : Below w.heap.size w w') : w.grownBy w' none := ⟨h.os, h.tape, h.output, h.size, fun k hk _ => h.block k hk⟩

theorem row_form_some {w : World} {base e size n : Nat} {v : Value} {xs : List Value} (h : RowM w base e size v n xs) (hn : v.ownBlock ≠ none) : ∃ g cap, v = .slice (some ⟨g, 0, none⟩) n cap ∧ base ≤ g ∧ g < w.heap.size := by
  rcases h.2 with ⟨rfl, rfl⟩ | ⟨g, cap, cur, fr, rfl, hb, hg, _⟩
  · simp [Value.ownBlock] at hn
  · exact ⟨g, cap, rfl, hb, (Array.getElem?_eq_some_iff.1 hg).1⟩

theorem ne_none_of {x : Option Nat} : x = none ∨ x ≠ none := by cases x <;> simp

theorem rawAt_owns_ne {w : World} {base e size n : Nat} {v rv : Value} {xs : List Value} {l : List UInt8} (h : RawAt w v l) (h2 : w.ownsRow base e size rv n xs) (he : e ≠ 5) : v.ownBlock ≠ rv.ownBlock := by
  obtain ⟨g, cap, cur, fr, rfl, hh, _⟩ := h
  rcases h2.2 with ⟨rfl, _⟩ | ⟨g2, cap2, cur2, rfl, _, hg2, _⟩
  · simp [Value.ownBlock]
  · simp only [Value.ownBlock, ne_eq, Option.some.injEq]
    intro hgg
    subst hgg
    rw [hh] at hg2
    injection hg2 with hg2
    injection hg2 with _ h _
    exact he h.symm

/-- What stands when all of a label's octets are on the text. -/
theorem octs_done {w w3 wr : World} {u4 tv u5 rawv : Value} {T R : List UInt8} {rvs : List Value} {k2 : Nat} {rs : Nat → List UInt8}
    (htx3 : Bytes w3 w.heap.size u4 T) (hraws3 : w3.ownsRow w.heap.size 23 1 u5 k2 rvs) (hrv3 : ∀ j (hj : j < rvs.length), RawAt w3 rvs[j] (rs j) ∧ rvs[j].ownBlock ≠ u4.ownBlock)
    (hraw3 : RawAt w3 rawv R) (hrne : rawv.ownBlock ≠ u4.ownBlock) (hbel3 : Below w.heap.size w w3)
    (hg4 : w3.grownBy wr u4.ownBlock) (ht4 : tv.ownBlock = u4.ownBlock ∨ ∃ b, tv.ownBlock = some b ∧ w3.heap.size ≤ b) :
    wr.ownsRow w.heap.size 23 1 u5 k2 rvs ∧ (∀ j (hj : j < rvs.length), RawAt wr rvs[j] (rs j) ∧ rvs[j].ownBlock ≠ tv.ownBlock) ∧ RawAt wr rawv R ∧ rawv.ownBlock ≠ tv.ownBlock ∧ Below w.heap.size w wr := by
  have key : ∀ {v : Value} {l : List UInt8}, RawAt w3 v l → v.ownBlock ≠ u4.ownBlock → RawAt wr v l ∧ v.ownBlock ≠ tv.ownBlock := by
    intro v l h hne
    refine ⟨h.kept hg4 hne, ?_⟩
    rcases ht4 with h4 | ⟨b, h4, hb⟩
    · rw [h4]; exact hne
    · obtain ⟨g, hg, hlt⟩ := h.lt
      rw [h4, hg]; intro e; injection e with e; omega
  refine ⟨hraws3.kept hg4 (ownBlock_ne hraws3 htx3 (by decide)), fun j hj => key (hrv3 j hj).1 (hrv3 j hj).2, (key hraw3 hrne).1, (key hraw3 hrne).2, hbel3.grown hg4 hbel3.size (fun k hk => (htx3.lt k hk).1)⟩

/-- The dot goes onto the text. -/
theorem dot_done {w wr w5 : World} {o5 : Obj} {tv u5 rawv : Value} {L R : List UInt8} {rvs : List Value} {k2 g cap : Nat} {rs : Nat → List UInt8}
    (htx4 : Bytes wr w.heap.size tv L) (hraws : wr.ownsRow w.heap.size 23 1 u5 k2 rvs) (hrv : ∀ j (hj : j < rvs.length), RawAt wr rvs[j] (rs j) ∧ rvs[j].ownBlock ≠ tv.ownBlock)
    (hraw : RawAt wr rawv R) (hrne : rawv.ownBlock ≠ tv.ownBlock) (hbel : Below w.heap.size w wr)
    (ho5 : w5.ownsRow w.heap.size 5 1 (.slice (some ⟨g, 0, none⟩) (L.length + 1) cap) (L.length + 1) (bvs L ++ [.int .u8 46])) (hg5 : (wr.alloc o5).grownBy w5 tv.ownBlock) (hat5 : tv.ownBlock = some g ∨ g = wr.heap.size + 1) :
    Bytes w5 w.heap.size (.slice (some ⟨g, 0, none⟩) (L.length + 1) cap) (L ++ [46]) ∧ w5.ownsRow w.heap.size 23 1 u5 k2 rvs ∧ (∀ j (hj : j < rvs.length), RawAt w5 rvs[j] (rs j) ∧ rvs[j].ownBlock ≠ some g) ∧
      RawAt w5 rawv R ∧ rawv.ownBlock ≠ some g ∧ Below w.heap.size w w5 := by
  have hg' := grown_alloc hg5
  have hst := step_dot htx4 hbel ho5 hg5
  have key : ∀ {v : Value} {l : List UInt8}, RawAt wr v l → v.ownBlock ≠ tv.ownBlock → RawAt w5 v l ∧ v.ownBlock ≠ some g := by
    intro v l h hne
    refine ⟨h.kept hg' hne, ?_⟩
    rcases hat5 with h4 | h4
    · rw [← h4]; exact hne
    · obtain ⟨q, hq, hlt⟩ := h.lt
      rw [hq]; intro e; injection e with e; omega
  exact ⟨hst.1, hraws.kept hg' (ownBlock_ne hraws htx4 (by decide)), fun j hj => key (hrv j hj).1 (hrv j hj).2, (key hraw hrne).1, (key hraw hrne).2, hst.2⟩

/-- The raw label goes onto the list of raw labels. -/
theorem raws_done {w w5 w6 : World} {o6 : Obj} {u5 rawv : Value} {L R : List UInt8} {rvs : List Value} {k2 g cap : Nat} {v6 : Value} {rs : Nat → List UInt8}
    (htx5 : Bytes w5 w.heap.size (.slice (some ⟨g, 0, none⟩) (L.length + 1) cap) (L ++ [46])) (hraws : w5.ownsRow w.heap.size 23 1 u5 k2 rvs) (hrv : ∀ j (hj : j < rvs.length), RawAt w5 rvs[j] (rs j) ∧ rvs[j].ownBlock ≠ some g)
    (hraw : RawAt w5 rawv R) (hrne : rawv.ownBlock ≠ some g) (hbel : Below w.heap.size w w5) (hR : rs k2 = R)
    (ho6 : w6.ownsRow w.heap.size 23 1 v6 (k2 + 1) (rvs ++ [rawv])) (hg6 : (w5.alloc o6).grownBy w6 u5.ownBlock) :
    Bytes w6 w.heap.size (.slice (some ⟨g, 0, none⟩) (L.length + 1) cap) (L ++ [46]) ∧ (∀ j (hj : j < (rvs ++ [rawv]).length), RawAt w6 (rvs ++ [rawv])[j] (rs j) ∧ (rvs ++ [rawv])[j].ownBlock ≠ some g) ∧ Below w.heap.size w w6 := by
  have hg' := grown_alloc hg6
  have hk : rvs.length = k2 := by have := hraws.1; omega
  refine ⟨htx5.kept hg' (ownBlock_ne htx5 hraws (by decide)), fun j hj => ?_, hbel.grown hg' hbel.size (fun k hk => (hraws.lt k hk).1)⟩
  by_cases hjl : j < rvs.length
  · rw [List.getElem_append_left hjl]
    exact ⟨(hrv j hjl).1.kept hg' (rawAt_owns_ne (hrv j hjl).1 hraws (by decide)), (hrv j hjl).2⟩
  · have hje : j = k2 := by simp at hj; omega
    subst hje
    rw [List.getElem_append_right (by omega)]
    simp only [hk, Nat.sub_self, List.getElem_cons_zero]
    rw [hR]
    exact ⟨hraw.kept hg' (rawAt_owns_ne hraw hraws (by decide)), hrne⟩

theorem badB_good {rs : List (List UInt8)} (h : badB rs = false) : ∀ r ∈ rs, r ≠ [] ∧ r.length ≤ 63 := by
  intro r hr
  unfold badB at h
  rw [List.any_eq_false] at h
  have h2 := h r hr
  unfold badR at h2
  simp only [Bool.or_eq_true, beq_iff_eq, decide_eq_true_eq, not_or] at h2
  exact ⟨fun e => h2.1 (by rw [e]; rfl), by omega⟩
theorem badB_bad {rs : List (List UInt8)} (h : badB rs = true) : ¬ ∀ r ∈ rs, r ≠ [] ∧ r.length ≤ 63 := by
  intro hall
  unfold badB at h
  rw [List.any_eq_true] at h
  obtain ⟨r, hr, hb⟩ := h
  have h2 := hall r hr
  unfold badR at hb
  simp only [Bool.or_eq_true, beq_iff_eq, decide_eq_true_eq] at hb
  rcases hb with hb | hb
  · exact h2.1 (List.eq_nil_of_length_eq_zero hb)
  · omega

theorem text_pos {ls : List Lab} (h : 0 < ls.length) : 0 < (textOf (ls.map itemOf)).length := by
  rcases Nat.eq_zero_or_pos (textOf (ls.map itemOf)).length with h0 | h0
  · have := textOf_nil (List.eq_nil_of_length_eq_zero h0)
    have h2 := congrArg List.length this
    simp at h2
    rw [h2] at h; simp at h
  · exact h0

/-- Not a single empty label: the text is read as the labels, or refused. -/
theorem parse_items {ls : List Lab} (h : 0 < ls.length) (h1 : ls.length = 1 → ∀ (h0 : 0 < ls.length), (rawOf ls[0]).length ≠ 0) :
    parse (textOf (ls.map itemOf)) = if (∀ r ∈ ls.map rawOf, r ≠ [] ∧ r.length ≤ 63) ∧ 1 + wireOf (ls.map rawOf) ≤ 255 then some (ls.map rawOf) else none := by
  rw [parse_text _ (by intro e; have := congrArg List.length e; simp at this; rw [this] at h; simp at h) ?_, items_fst]
  rw [items_fst]
  intro e
  have hl := congrArg List.length e
  simp at hl
  have := h1 hl h
  apply this
  have h2 : (ls.map rawOf)[0]? = some [] := by rw [e]; rfl
  rw [List.getElem?_map, List.getElem?_eq_getElem h] at h2
  simp at h2
  rw [h2]; rfl

theorem parse_empty {ls : List Lab} (h : ls.length = 1) (h0 : (rawOf (ls[0]'(by omega))).length = 0) : parse (textOf (ls.map itemOf)) = some [] := by
  match ls, h with
  | [l], _ =>
    have : rawOf l = [] := List.eq_nil_of_length_eq_zero h0
    simp [textOf, itemOf, this, spell, parse]

theorem rounds_bad {ls : List Lab} {k : Nat} (h : k < ls.length) {l : Lab} (hl : l = ls[k]) : badB ((ls.take (k + 1)).map rawOf) = (badB ((ls.take k).map rawOf) || badR (rawOf l)) := by
  rw [take_succ_get ls k h, List.map_append, List.map_cons, List.map_nil, badB_snoc, ← hl]
theorem rounds_wire {ls : List Lab} {k : Nat} (h : k < ls.length) {l : Lab} (hl : l = ls[k]) : wireOf ((ls.take (k + 1)).map rawOf) = wireOf ((ls.take k).map rawOf) + (1 + (rawOf l).length) := by
  rw [take_succ_get ls k h, List.map_append, List.map_cons, List.map_nil, wireOf_snoc, ← hl]
theorem rounds_text {ls : List Lab} {k : Nat} (h : k < ls.length) {l : Lab} (hl : l = ls[k]) : textOf ((ls.take (k + 1)).map itemOf) = (textOf ((ls.take k).map itemOf) ++ spell (modeOf l) 0 (rawOf l)) ++ [46] := by
  rw [take_succ_get ls k h, List.map_append, List.map_cons, List.map_nil, textOf_append, ← hl]
  simp [textOf, itemOf]

theorem oct_step (ms : Nat → Nat) (T R : List UInt8) (j : Nat) (h : j < R.length) : T ++ spell ms 0 (R.take (j + 1)) = (T ++ spell ms 0 (R.take j)) ++ put R[j] (ms j) := by
  rw [take_succ_get _ _ h, spell_append]
  have e : min j R.length = j := by omega
  simp [spell, e]

theorem modeOf_zero {l : Lab} (h : l.modes.length = 0) (j : Nat) : modeOf l j = 0 := by unfold modeOf; rw [if_pos h]
theorem modeOf_pos {l : Lab} (h : 0 < l.modes.length) (j : Nat) : modeOf l j = (l.modes[j % l.modes.length]'(Nat.mod_lt _ h)).toNat := by
  unfold modeOf
  rw [if_neg (by omega), List.getD_eq_getElem?_getD, List.getElem?_eq_getElem (Nat.mod_lt _ h)]
  rfl

end YbulkaxhmFmt
end Go.Proofs
