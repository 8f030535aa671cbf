/-
  What the law's builder needs: append of zeros, the map of links.
-/
import Derived.Test.YbulkaxksFmtRc
import Derived.MapKept
import Derived.WideKeyRuns
set_option linter.unusedVariables false
set_option linter.unusedSimpArgs false
namespace Go.Proofs
open Go.RowKit
theorem Ybaf.kinfo55 : (Ybaf.prog.info? 55).map (fun i => (i.zero, i.size)) = some (some (.agg #[.string ⟨#[]⟩, .int .u8 0, .slice none 0 0, .map none, .slice none 0 0, .map none, .bool false, .map none, .slice none 0 0]), 9) := by kernel_rfl
theorem Ybaf.kcheck59 (a b : Int) (w : World) : (Instr.checkKey false 10000 59 (.agg #[.int .i64 a, .int .i64 b])).run Ybaf.prog w = .ok () w := by kernel_rfl
theorem Ybaf.keq3 (a c : Int) (w : World) : (Op.equalIn 9999 3 (.int .i64 a) (.int .i64 c)).run Ybaf.prog w = .ok (a == c) w := by kernel_rfl
theorem Ybaf.kpart0 (a b : Int) (w : World) : (part 3 #[.int .i64 a, .int .i64 b] 0).run Ybaf.prog w = .ok (.int .i64 a) w := by kernel_rfl
theorem Ybaf.kpart1 (a b : Int) (w : World) : (part 3 #[.int .i64 a, .int .i64 b] 1).run Ybaf.prog w = .ok (.int .i64 b) w := by kernel_rfl
theorem Ybaf.ksize3 (w : World) : (sizeOf 3).run Ybaf.prog w = .ok 1 w := by kernel_rfl
theorem Ybaf.keq59 (a b c d : Int) (w : World) : (Op.equal 59 (.agg #[.int .i64 a, .int .i64 b]) (.agg #[.int .i64 c, .int .i64 d])).run Ybaf.prog w = .ok (a == c && b == d) w := by
  have h59 : Ybaf.prog.underlying 59 = some (.array 2 3) := by kernel_rfl
  unfold Op.equal
  show (Op.equalIn (9999 + 1) 59 (.agg #[.int .i64 a, .int .i64 b]) (.agg #[.int .i64 c, .int .i64 d])).run Ybaf.prog w = _
  rw [Op.equalIn]
  simp [run_underlying h59, Ybaf.ksize3, Ybaf.keq3, Ybaf.kpart0, Ybaf.kpart1, Std.Legacy.Range.forIn_eq_forIn_range', List.range', Std.Legacy.Range.size]
  by_cases h1 : a = c <;> by_cases h2 : b = d <;> simp [h1, h2, Ybaf.keq3]
namespace YbulkaxksFmt
section
variable {P : Program}
theorem run_append_room_zero (w : World) (t tx ty e : TypeId) (i : TypeInfo) (z : Value) (ht : P.underlying t = some (.slice e)) (hx : P.underlying tx = some (.int .i64)) (hi : P.info? e = some i) (hz : i.zero = some z) (b off sLen sCap n : Nat) (hn : ¬ n * i.size = 0) (hn2 : i.bytes * n ≤ 281474976710656) (hn3 : n ≤ maxLen)
    (hroom : sLen + n ≤ sCap) (hc : ∀ j, j < (Builtin.zeroCells z.cells n).toList.length → (w.cell? ⟨b, off + sLen * i.size + j, none⟩).isSome = true) (hf : ∀ j, j < (Builtin.zeroCells z.cells n).toList.length → w.frozen? ⟨b, off + sLen * i.size + j, none⟩ = false) (h1 : ∀ u ∈ (Builtin.zeroCells z.cells n).toList, u.oneCell' = true) :
    (Builtin.append_ #[t, tx] ty #[.slice (some ⟨b, off, none⟩) sLen sCap, .int .i64 (n : Int)]).run P w = .ok (.slice (some ⟨b, off, none⟩) (sLen + n) sCap) (w.setCells b (off + sLen * i.size) (Builtin.zeroCells z.cells n).toList) := by
  have hst := run_storeCells_cells (P := P) b (off + sLen * i.size) (Builtin.zeroCells z.cells n).toList 0 w (by simpa using hc) (by simpa using hf) h1
  simp only [Nat.add_zero] at hst
  have hw : IntKind.i64.wrap (n : Int) = (n : Int) := by unfold maxLen at hn3; rw [IntKind.wrap_i64]; omega
  have h0 : ¬ ((n : Int) < 0) := by omega
  have h48 : ¬ (281474976710656 < (n : Int) * (i.bytes : Int)) := by
    have : (n : Int) * (i.bytes : Int) = ((i.bytes * n : Nat) : Int) := by push_cast; rw [Int.mul_comm]
    omega
  simp [Builtin.append_, run_underlying ht, run_underlying hx, sizeOf, typeInfo, hi, asInt, asIntOf, hw, h0, h48, hn, hroom, zeroValue, hz, Addr.add_lit, hst]
theorem run_append_grow_zero (w : World) (t tx ty e : TypeId) (i : TypeInfo) (z : Value) (ht : P.underlying t = some (.slice e)) (hx : P.underlying tx = some (.int .i64)) (hi : P.info? e = some i) (hz : i.zero = some z) (base : Option Addr) (sLen sCap : Nat) (olds : List Value)
    (hold : (Builtin.firstCells i.size sLen (.slice base sLen sCap)).run P w.drew = .ok olds.toArray w.drew) (n : Nat) (hn : ¬ n * i.size = 0) (hn2 : i.bytes * n ≤ 281474976710656) (hn3 : n ≤ maxLen)
    (hg : sCap < sLen + n) (h63 : ((sLen + n : Nat) : Int) ≤ 9223372036854775807) (hfit : Builtin.nextslicecap (sLen + n) sCap * i.bytes ≤ 281474976710656) :
    (Builtin.append_ #[t, tx] ty #[.slice base sLen sCap, .int .i64 (n : Int)]).run P w =
      .ok (.slice (some ⟨w.heap.size, 0, none⟩) (sLen + n) (grownCap w (sLen + n) sCap e))
        (w.drew.alloc (.cells ((olds ++ (Builtin.zeroCells z.cells n).toList).toArray ++ Builtin.zeroCells z.cells (grownCap w (sLen + n) sCap e - (sLen + n))) e)) := by
  have hn' : ¬ (sLen + n ≤ sCap) := by omega
  have h63' : ¬ (9223372036854775807 < ((sLen : Int) + (n : Int))) := by omega
  have h48' : ¬ (281474976710656 < Builtin.nextslicecap (sLen + n) sCap * i.bytes) := by omega
  have hw : IntKind.i64.wrap (n : Int) = (n : Int) := by unfold maxLen at hn3; rw [IntKind.wrap_i64]; omega
  have h0 : ¬ ((n : Int) < 0) := by omega
  have h48 : ¬ (281474976710656 < (n : Int) * (i.bytes : Int)) := by
    have : (n : Int) * (i.bytes : Int) = ((i.bytes * n : Nat) : Int) := by push_cast; rw [Int.mul_comm]
    omega
  simp [Builtin.append_, run_underlying ht, run_underlying hx, sizeOf, typeInfo, asInt, asIntOf, hw, h0, h48, hn, zeroValue, hi, hz, hn', h63', h48', Question.forced, hold, newRow, grownCap]
  congr 2
  apply Array.ext'
  simp [List.append_assoc]

/-- APPEND OF m ZEROS ONTO A ROW OF THE CALL's OWN. -/
theorem run_append_rowZ (w : World) (base : Nat) (t tx ty e : TypeId) (i : TypeInfo) (z : Value) (size bytes : Nat) (ht : P.underlying t = some (.slice e)) (hx : P.underlying tx = some (.int .i64)) (hi : P.info? e = some i) (hz : i.zero = some z)
    (hsize : i.size = size) (hby : i.bytes = bytes) (hzs : z.cells.size = size)
    (v : Value) (n : Nat) (xs : List Value) (hown : RowM w base e size v n xs)
    (m : Nat) (news : List Value) (hnews : (Builtin.zeroCells z.cells m).toList = news) (hm0 : ¬ m * size = 0) (h1 : ∀ u ∈ news, u.oneCell' = true)
    (h63 : n + m ≤ maxLen) (hbytes : (n + m) * bytes ≤ 140737488355328) (hbase : base ≤ w.heap.size) :
    ∃ v' w', (Builtin.append_ #[t, tx] ty #[v, .int .i64 (m : Int)]).run P w = .ok v' w' ∧ RowM w' base e size v' (n + m) (xs ++ news) ∧ w.grownBy w' v.ownBlock ∧ (v'.ownBlock = v.ownBlock ∨ v'.ownBlock = some w.heap.size) ∧ KeptUpTo w w' v.ownBlock (n * size) ∧ (0 < m → v'.ownBlock ≠ none) := by
  subst hsize
  subst hby
  subst hnews
  have hnl : (Builtin.zeroCells z.cells m).toList.length = m * i.size := by rw [Array.length_toList, size_zeroCells, hzs]
  have hsmall : n + m ≤ 9223372036854775807 := by simp only [maxLen] at h63; omega
  have hb2 : i.bytes * m ≤ 281474976710656 := by
    have : m * i.bytes ≤ (n + m) * i.bytes := Nat.mul_le_mul_right _ (by omega)
    rw [Nat.mul_comm]; omega
  have hm3 : m ≤ maxLen := by omega
  have hmp : 0 < m := by rcases Nat.eq_zero_or_pos m with h | h; subst h; simp at hm0; exact h
  have hlen : (xs ++ (Builtin.zeroCells z.cells m).toList).length = (n + m) * i.size := by rw [List.length_append, hown.1, hnl, Nat.add_mul]
  have grown : ∀ (old : Nat), old < n + m → ∀ (row : Option Nat),
      RowM (w.drew.alloc (.cells ((xs ++ (Builtin.zeroCells z.cells m).toList).toArray ++ Builtin.zeroCells z.cells (grownCap w (n + m) old e - (n + m))) e)) base e i.size
        (.slice (some ⟨w.heap.size, 0, none⟩) (n + m) (grownCap w (n + m) old e)) (n + m) (xs ++ (Builtin.zeroCells z.cells m).toList) ∧
      w.grownBy (w.drew.alloc (.cells ((xs ++ (Builtin.zeroCells z.cells m).toList).toArray ++ Builtin.zeroCells z.cells (grownCap w (n + m) old e - (n + m))) e)) row := by
    intro old ho row
    have hge := grownCap_ge w (n + m) old e
    have hcm : grownCap w (n + m) old e ≤ maxLen := grownCap_le_maxLen w (n + m) old e h63
    refine ⟨⟨hlen, .inr ⟨w.heap.size, _, _, (0, 0), rfl, hbase, heap_alloc_new w.drew _, .inl rfl, hge, hcm, ?_, ?_⟩⟩, ⟨rfl, rfl, rfl, by simp, fun k hk _ => Below.heap_alloc w.drew _ k hk⟩⟩
    · simp only [Array.size_append, List.size_toArray, size_zeroCells, hzs, hlen, ← Nat.add_mul]
      congr 1
      omega
    · simp only [Array.toList_append]
      rw [← hlen]
      exact List.take_left
  rcases hown.2 with ⟨rfl, rfl⟩ | ⟨g, cap, cur, fr, rfl, hbg, hg, hfr, hnc, hcm, hcs, htake⟩
  · have hxe : xs = [] := List.eq_nil_of_length_eq_zero (by simpa using hown.1)
    subst hxe
    have hr := run_append_grow_zero (P := P) w t tx ty e i z ht hx hi hz none 0 0 [] (run_firstCells_none w.drew i.size 0 0 0) m hm0 hb2 hm3 (by omega) (by omega) (growslice_fits (by omega) hbytes)
    have hgr := grown 0 (by omega) (Value.ownBlock (.slice none 0 0))
    exact ⟨_, _, hr, hgr.1, hgr.2, .inr rfl, fun a ha _ => World.cell?_of_block (Below.heap_alloc w.drew _ a.block ha), fun _ => by simp [Value.ownBlock]⟩
  · by_cases hroom : n + m ≤ cap
    · have hfit : n * i.size + (Builtin.zeroCells z.cells m).toList.length ≤ cur.size := by rw [hnl, hcs, ← Nat.add_mul]; exact Nat.mul_le_mul_right _ hroom
      have hr := run_append_room_zero (P := P) w t tx ty e i z ht hx hi hz g 0 n cap m hm0 hb2 hm3 hroom
        (fun j hj => by rw [cell_of_row w g _ cur e fr hg]; simp only [Array.getElem?_eq_getElem (show 0 + n * i.size + j < cur.size by omega), Option.isSome_some])
        (fun j hj => by
          unfold World.frozen?
          rw [hg]
          obtain ⟨lo, hi'⟩ := fr
          rcases hfr with h | h
          · cases h; simp
          · simp only [Bool.and_eq_false_iff, decide_eq_false_iff_not]
            left
            have : lo ≥ cur.size := h
            show ¬ lo ≤ 0 + n * i.size + j
            omega) h1
      obtain ⟨cur', k1, k2, k3⟩ := setCells_heap g e fr (Builtin.zeroCells z.cells m).toList (0 + n * i.size) w cur hg (by omega)
      refine ⟨_, _, hr, ⟨hlen, .inr ⟨g, cap, cur', fr, rfl, hbg, k1, ?_, hroom, hcm, by rw [k2]; exact hcs, ?_⟩⟩, setCells_grown g _ _ w, .inl rfl, fun a ha hlt => World.cell?_setCells_out g _ _ w a (fun h1 _ => .inl (by have := hlt (by rw [h1]; rfl); omega)), fun _ => by simp [Value.ownBlock]⟩
      · rw [k2]; exact hfr
      · rw [← hlen, List.length_append, hown.1, ← Nat.zero_add (n * i.size), k3, Nat.zero_add, htake]
    · have hold := run_firstCells_some (P := P) w.drew i.size n ⟨g, 0, none⟩ n cap xs hown.1 (fun j u hu => by
        have hadd : (⟨g, 0, none⟩ : Addr).add j = ⟨g, j, none⟩ := by unfold Addr.add; split <;> simp_all
        rw [hadd]
        exact RowM.cells hown (g := g) rfl j u hu)
      have hr := run_append_grow_zero (P := P) w t tx ty e i z ht hx hi hz (some ⟨g, 0, none⟩) n cap xs hold m hm0 hb2 hm3 (by omega) (by omega) (growslice_fits (by omega) hbytes)
      have hgr := grown cap (by omega) (Value.ownBlock (.slice (some ⟨g, 0, none⟩) n cap))
      exact ⟨_, _, hr, hgr.1, hgr.2, .inr rfl, fun a ha _ => World.cell?_of_block (Below.heap_alloc w.drew _ a.block ha), fun _ => by simp [Value.ownBlock]⟩

theorem wpList_append_rowZ (w : World) {ops : Array Oper} {rest : List Oper} {o : Oper} {a : Act} {Q : Exit → Act → World → Prop} (hgd : o.guard = none) (s y : Operand) (t tx : TypeId)
    (ho : o.op = .call { callee := .builtin .append, args := #[s, y], argTypes := #[t, tx] })
    (base : Nat) (e : TypeId) (i : TypeInfo) (z : Value) (size bytes : Nat) (ht : P.underlying t = some (.slice e)) (htx : P.underlying tx = some (.int .i64)) (hi : P.info? e = some i) (hz : i.zero = some z)
    (hsize : i.size = size) (hby : i.bytes = bytes) (hzs : z.cells.size = size)
    (v : Value) (n : Nat) (xs : List Value) (hsv : a.eval s = v) (hown : RowM w base e size v n xs)
    (m : Nat) (news : List Value) (hx : a.eval y = .int .i64 (m : Int)) (hnews : (Builtin.zeroCells z.cells m).toList = news) (hm0 : ¬ m * size = 0) (h1 : ∀ u ∈ news, u.oneCell' = true)
    (h63 : n + m ≤ maxLen) (hbytes : (n + m) * bytes ≤ 140737488355328) (hbase : base ≤ w.heap.size)
    (h : ∀ v' w', RowM w' base e size v' (n + m) (xs ++ news) → w.grownBy w' v.ownBlock → (v'.ownBlock = v.ownBlock ∨ v'.ownBlock = some w.heap.size) → KeptUpTo w w' v.ownBlock (n * size) → (0 < m → v'.ownBlock ≠ none) → wpList P ops Q rest (a.put o.dst v') w') : wpList P ops Q (o :: rest) a w := by
  obtain ⟨v', w', hr, h2, h3, h4, h5, h6⟩ := run_append_rowZ (P := P) w base t tx o.type e i z size bytes ht htx hi hz hsize hby hzs v n xs hown m news hnews hm0 h1 h63 hbytes hbase
  refine wpList_plain hgd fun K hK => ?_
  unfold Oper.wp execOp
  simp only [ho, resolve, invoke, builtin, Sem.run_bind, Sem.run_pure, Result.andThen_ok, List.map_toArray, List.map_cons, List.map_nil, hsv, hx, hr]
  exact hK _ _ (h v' w' h2 h3 h4 h5 h6)
end

/-! ### The map of links -/

theorem Own.not_map {w : World} {B : Nat} {L : List RowS} (h : Own w B L) {mb : Nat} {es : Array MapEntry} {c : Nat} (hm : w.heap[mb]? = some (.map es c)) : ∀ i (hi : i < L.length), (L[i]).v.ownBlock ≠ some mb := by
  intro i hi he
  rcases (h.rows i hi).2 with ⟨h1, _⟩ | ⟨g, cap, cur, fr, h1, _, hg, _⟩
  · rw [h1] at he; simp [Value.ownBlock] at he
  · rw [h1] at he
    simp [Value.ownBlock] at he
    subst he
    rw [hg] at hm
    cases hm

theorem cell_not_map {w : World} {mb : Nat} {es : Array MapEntry} {c : Nat} (hm : w.heap[mb]? = some (.map es c)) {a : Addr} {v : Value} (hc : w.cell? a = some v) : a.block ≠ mb := by
  intro he
  unfold World.cell? at hc
  rw [he, hm] at hc
  simp at hc

theorem Goes.mapStep {B : Nat} {w w1 w2 : World} {L L1 : List RowS} (h : Goes B w L w1 L1) {mb : Nat} {es : Array MapEntry} {c : Nat} (hm : w1.heap[mb]? = some (.map es c)) (hB : B ≤ mb) (hg : w1.grownBy w2 (some mb)) : Goes B w L w2 L1 := by
  refine ⟨⟨fun i hi => RowM.kept (h.own.rows i hi) hg (.inr (h.own.not_map hm i hi)), h.own.apart⟩, fun a v h1 h2 => ?_, h.below.grown hg h.size (fun k hk => by cases hk; exact hB), Nat.le_trans h.size hg.size⟩
  obtain ⟨x, y⟩ := h.safe a v h1 h2
  exact ⟨hg.cell x (by have := cell_not_map hm x; simpa using this), y⟩

/-- The links in the map. -/
def LinkMap (w : World) (mb : Nat) (prs : List (Nat × Nat)) : Prop :=
  ∃ es clock, w.heap[mb]? = some (.map es clock) ∧ es.size = prs.length ∧ ∀ e ∈ es.toList, ∃ p ∈ prs, e.key = .agg #[.int .i64 (p.1 : Int), .int .i64 (p.2 : Int)]

theorem LinkMap.kept {w w' : World} {mb : Nat} {prs : List (Nat × Nat)} {row : Option Nat} (h : LinkMap w mb prs) (hg : w.grownBy w' row) (hr : row ≠ some mb) : LinkMap w' mb prs := by
  obtain ⟨es, c, h1, h2, h3⟩ := h
  exact ⟨es, c, by rw [hg.block mb (Array.getElem?_eq_some_iff.1 h1).1 (by cases row <;> simp_all [Ne.symm])]; exact h1, h2, h3⟩
theorem LinkMap.row {w w' : World} {B : Nat} {L : List RowS} {mb : Nat} {prs : List (Nat × Nat)} (h : LinkMap w mb prs) (ho : Own w B L) {i : Nat} {r : RowS} (hr : L[i]? = some r) (hg : w.grownBy w' r.v.ownBlock) : LinkMap w' mb prs := by
  obtain ⟨es, c, h1, h2, h3⟩ := h
  refine LinkMap.kept ⟨es, c, h1, h2, h3⟩ hg ?_
  obtain ⟨hi, he⟩ := List.getElem?_eq_some_iff.1 hr
  have := ho.not_map h1 i hi
  rw [he] at this
  exact this
theorem LinkMap.lt {w : World} {mb : Nat} {prs : List (Nat × Nat)} (h : LinkMap w mb prs) : mb < w.heap.size := by
  obtain ⟨es, c, h1, h2, h3⟩ := h
  exact (Array.getElem?_eq_some_iff.1 h1).1

theorem ask_none (a b : Nat) (w : World) : ∀ (l : List MapEntry) (i : Nat), (∀ e ∈ l, ∃ p : Nat × Nat, p ≠ (a, b) ∧ e.key = .agg #[.int .i64 (p.1 : Int), .int .i64 (p.2 : Int)]) →
    (Instr.findAsking 59 (.agg #[.int .i64 (a : Int), .int .i64 (b : Int)]) l i).run Ybaf.prog w = .ok none w
  | [], i, _ => by simp [Instr.findAsking]
  | e :: t, i, h => by
    obtain ⟨p, hp, he⟩ := h e (List.mem_cons_self ..)
    have hne : ((a : Int) == (p.1 : Int) && (b : Int) == (p.2 : Int)) = false := by
      rw [Bool.and_eq_false_iff]
      obtain ⟨x, y⟩ := p
      simp at hp ⊢
      omega
    have ht := ask_none a b w t (i + 1) (fun e he => h e (List.mem_cons_of_mem _ he))
    simp [Instr.findAsking, he, Ybaf.keq59, hne, ht]

theorem link_update {w : World} {mb : Nat} {prs : List (Nat × Nat)} {a b : Nat} (h : LinkMap w mb prs) (hn : (a, b) ∉ prs) :
    ∃ w' es c, (Instr.mapUpdate 52 (.map (some mb)) (.agg #[.int .i64 (a : Int), .int .i64 (b : Int)]) (.bool true)).run Ybaf.prog w = .ok () w' ∧ LinkMap w' mb (prs ++ [(a, b)]) ∧ w.grownBy w' (some mb) ∧ w.heap[mb]? = some (.map es c) := by
  obtain ⟨es, c, h1, h2, h3⟩ := h
  have h52 : Ybaf.prog.underlying 52 = some (.map 59 4) := by kernel_rfl
  have hk : ∀ w', (Instr.findKey 59 (.agg #[.int .i64 (a : Int), .int .i64 (b : Int)]) es.toList).run Ybaf.prog w' = .ok none w' := fun w' => by
    rw [run_findKey_eq _ (by kernel_rfl)]
    refine ask_none a b w' _ _ fun e he => ?_
    obtain ⟨p, hp, hk⟩ := h3 e he
    exact ⟨p, fun h => hn (h ▸ hp), hk⟩
  refine ⟨{ w with heap := w.heap.setIfInBounds mb (.map (es.push { key := .agg #[.int .i64 (a : Int), .int .i64 (b : Int)], val := .bool true, born := c }) (c + 1)) }, es, c, ?_, ⟨es.push { key := .agg #[.int .i64 (a : Int), .int .i64 (b : Int)], val := .bool true, born := c }, c + 1, (MapKept.heap_set h1).1, by simp [h2], ?_⟩, ⟨rfl, rfl, rfl, by simp, fun k hk hne => (MapKept.heap_set h1).2 k (by simpa using hne)⟩, h1⟩
  · simp [Instr.mapUpdate, run_underlying h52, MapKept.run_getObj_map h1, Ybaf.kcheck59, hk, MapKept.run_setObj_map _ h1, Result.andThen]
  · intro e he
    rw [Array.toList_push, List.mem_append] at he
    rcases he with he | he
    · obtain ⟨p, hp, hk⟩ := h3 e he
      exact ⟨p, List.mem_append_left _ hp, hk⟩
    · simp at he
      subst he
      exact ⟨(a, b), by simp, rfl⟩

end YbulkaxksFmt
end Go.Proofs
