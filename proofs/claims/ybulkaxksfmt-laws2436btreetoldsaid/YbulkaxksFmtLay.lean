/-
  (*Network).layout.
-/
import Derived.Test.YbulkaxksFmtNet
set_option linter.unusedVariables false
set_option linter.unusedSimpArgs false
namespace Go.Proofs.YbulkaxksFmt
open Go.RowKit

section
variable {P : Program} {Q : Exit → Act → World → Prop}
theorem wp_make_own (w : World) {o : Oper} {a : Act} {K : Act → World → Prop} (l c : Operand) (t : TypeId) (d : Option Tmp) (hop : o.op = Op.makeSlice t l c) (hd : o.dst = d)
    (base : Nat) (e : TypeId) (i : TypeInfo) (z : Value) (size : Nat) (h1 : P.underlying t = some (.slice e)) (h2 : P.info? e = some i) (h3 : i.zero = some z) (h4 : i.size = size)
    (kl kc : IntKind) (C : Int) (n : Nat) (hl : a.eval l = .int kl 0) (hc : a.eval c = .int kc C) (hC : C = (n : Int)) (b2 : i.bytes * n ≤ 281474976710656) (b3 : n ≤ maxLen) (b4 : base ≤ w.heap.size)
    (hK : ∀ w', RowM w' base e size (.slice (some ⟨w.heap.size, 0, none⟩) 0 n) 0 [] → w.grownBy w' none → K (a.put d (.slice (some ⟨w.heap.size, 0, none⟩) 0 n)) w') :
    Oper.wp P o a w K Q := by
  subst hd
  obtain ⟨w', hrun, r1, r2⟩ := run_make_own (P := P) w base t e i z size h1 h2 h3 h4 kl kc n b2 b3 b4
  subst hC
  unfold Oper.wp
  simp [execOp, hop, hl, hc, hrun, Result.andThen]
  exact hK w' (RowM.of_owns r1) r2
end

section
variable {P : Program} {ops : Array Oper} {Q : Exit → Act → World → Prop} {md : Region.Mode} {S S0 : World → Prop} {ks : List Nat}
/-- Two operations may come up. -/
theorem till_two {i j : Nat} {oi oj : Oper} {fuel : Nat} {listed : Array Bool} {a : Act} {w : World} (hr : Region.ready md ops listed = [i, j]) (hoi : ops[i]? = some oi) (hgi : oi.guard = none) (hoj : ops[j]? = some oj) (hgj : oj.guard = none)
    (h1 : ∀ K : Act → World → Prop, (∀ a' w', (i ∈ ks ∨ (S w → S w')) → (S0 w → S0 w') → wpTill P md ops Q S S0 ks fuel (listed.setIfInBounds i true) a' w' → K a' w') → Oper.wp P oi a w K Q)
    (h2 : ∀ K : Act → World → Prop, (∀ a' w', (j ∈ ks ∨ (S w → S w')) → (S0 w → S0 w') → wpTill P md ops Q S S0 ks fuel (listed.setIfInBounds j true) a' w' → K a' w') → Oper.wp P oj a w K Q) : wpTill P md ops Q S S0 ks (fuel + 1) listed a w := by
  refine ⟨fun h0 => (by rw [h0] at hr; cases hr), fun k hk => ?_⟩
  rw [hr] at hk
  have hk' : k = i ∨ k = j := by simpa using hk
  rcases hk' with rfl | rfl
  · unfold wpOp
    rw [hoi]
    have hw : Region.wanted oi (yielded ops a.tmps) = true := by simp [Region.wanted, hgi]
    simp only [hw, if_true]
    exact .inl (h1 _ fun a' w' h1 h1' h2 => ⟨⟨h1, h1'⟩, h2⟩)
  · unfold wpOp
    rw [hoj]
    have hw : Region.wanted oj (yielded ops a.tmps) = true := by simp [Region.wanted, hgj]
    simp only [hw, if_true]
    exact .inl (h2 _ fun a' w' h1 h1' h2 => ⟨⟨h1, h1'⟩, h2⟩)
end

def groupL : Nat → List Nat → List Nat
  | _, [] => []
  | h, p :: t => List.replicate p h ++ groupL (h + 1) t
def startsL : Nat → List Nat → List Nat
  | _, [] => []
  | s, p :: t => s :: startsL (s + p) t
theorem groupL_append : ∀ (a b : List Nat) (h : Nat), groupL h (a ++ b) = groupL h a ++ groupL (h + a.length) b
  | [], b, h => by simp [groupL]
  | p :: t, b, h => by simp [groupL, groupL_append t b (h + 1), Nat.add_assoc, Nat.add_comm 1]
theorem startsL_append : ∀ (a b : List Nat) (s : Nat), startsL s (a ++ b) = startsL s a ++ startsL (s + a.sum) b
  | [], b, s => by simp [startsL]
  | p :: t, b, s => by simp [startsL, startsL_append t b (s + p), Nat.add_assoc]
theorem groupL_length : ∀ (a : List Nat) (h : Nat), (groupL h a).length = a.sum
  | [], h => rfl
  | p :: t, h => by simp [groupL, groupL_length t (h + 1)]
theorem startsL_length : ∀ (a : List Nat) (s : Nat), (startsL s a).length = a.length
  | [], s => rfl
  | p :: t, s => by simp [startsL, startsL_length t (s + p)]
theorem sum_take_succ {ps : List Nat} {k : Nat} (h : k < ps.length) : (ps.take (k + 1)).sum = (ps.take k).sum + ps[k] := by
  rw [List.take_succ_eq_append_getElem h, List.sum_append]; simp
theorem sum_take_le (ps : List Nat) (k : Nat) : (ps.take k).sum ≤ ps.sum := by
  have : ps.sum = (ps.take k).sum + (ps.drop k).sum := by rw [← List.sum_append, List.take_append_drop]
  omega

/-- Two rows change places. -/
theorem Goes.swap {B : Nat} {w w' : World} {L : List RowS} {a b : RowS} (h : Goes B w L w' [a, b]) : Goes B w L w' [b, a] := by
  refine ⟨⟨fun i hi => ?_, fun i j hi hj hne => ?_⟩, fun x v h1 h2 => ?_, h.below, h.size⟩
  · match i, hi with
    | 0, _ => exact h.own.rows 1 (by simp)
    | 1, _ => exact h.own.rows 0 (by simp)
    | i + 2, hi => simp only [List.length_cons, List.length_nil] at hi; omega
  · match i, j, hi, hj, hne with
    | 0, 1, _, _, _ => exact h.own.apart 1 0 (by simp) (by simp) (by omega)
    | 1, 0, _, _, _ => exact h.own.apart 0 1 (by simp) (by simp) (by omega)
    | 0, 0, _, _, hne => exact absurd rfl hne
    | 1, 1, _, _, hne => exact absurd rfl hne
    | i + 2, _, hi, _, _ => simp only [List.length_cons, List.length_nil] at hi; omega
    | _, j + 2, _, hj, _ => simp only [List.length_cons, List.length_nil] at hj; omega
  · obtain ⟨y1, y2⟩ := h.safe x v h1 h2
    refine ⟨y1, fun i hi hb => ?_⟩
    match i, hi, hb with
    | 0, _, hb => exact y2 1 (by simp) hb
    | 1, _, hb => exact y2 0 (by simp) hb
    | i + 2, hi, _ => simp only [List.length_cons, List.length_nil] at hi; omega

theorem natsAt_row {w : World} {B n n' c : Nat} {a : Option Addr} {l : List Nat} (h : RowM w B 3 1 (.slice a n' c) n (ivs l)) : NatsAt w B a l := by
  intro j hj
  have hn : 0 < n := by have := h.1; rw [ivs_length] at this; omega
  obtain ⟨g, rfl, hg⟩ := h.addr hn
  exact ⟨g, rfl, (RowM.lt h g rfl).1, hg j _ (by simp [ivs, List.getElem?_eq_getElem hj])⟩

/-- The loop over the groups. -/
def LayRel (B : Nat) (w : World) (ps : List Nat) (gv sv iv0 : Value) (wr : World) : Prop :=
  ∃ k : Nat, k ≤ ps.length ∧ iv0 = .int .i64 (k : Int) ∧ Goes B w [] wr [rowOf 3 gv (ivs (groupL 0 (ps.take k))), rowOf 3 sv (ivs (startsL 0 (ps.take k)))]

/-- The loop over one group's processors. -/
def LayIn (B : Nat) (w : World) (GL SL : List Nat) (k p : Nat) (sv gv iv0 : Value) (wr : World) : Prop :=
  ∃ m : Nat, m ≤ p ∧ iv0 = .int .i64 (m : Int) ∧ Goes B w [] wr [rowOf 3 gv (ivs (GL ++ List.replicate m k)), rowOf 3 sv (ivs SL ++ [.int .i64 (GL.length : Int)])]

set_option maxRecDepth 100000 in
set_option maxHeartbeats 400000 in
theorem layout_any (nb : Nat) (ps : List Nat) (all : Bool) (prs : List (Nat × Nat)) (w : World) (h : NetAt w nb ps all prs) (hp : ps.length ≤ 4) (hps : ps.sum ≤ 12) :
    Calls Ybaf.prog 21 #[.pointer (some ⟨nb, 0, none⟩)] w fun e w' => ∃ a1 c1 a2 c2, e = .returned (.tuple #[.slice a1 ps.sum c1, .slice a2 (ps.length + 1) c2]) ∧ NatsAt w' w.heap.size a1 (groupL 0 ps) ∧ NatsAt w' w.heap.size a2 (startsL 0 ps ++ [ps.sum]) ∧ Below w.heap.size w w' := by
  obtain ⟨i3, hi3, hz30, hz31, hz32⟩ := info_parts Ybaf.kinfo3
  obtain ⟨ga, gc, g2, hgs⟩ := h.groups
  obtain ⟨pa, pc, g4⟩ := h.procs
  have HGS : Hid (∀ j (hj : j < ps.length), ∃ b pa pc, ga = some ⟨b, 0, none⟩ ∧ w.cell? ⟨b, j * 3, none⟩ = some (.string ⟨#[]⟩) ∧ w.cell? ⟨b, j * 3 + 1, none⟩ = some (.string ⟨#[]⟩) ∧ w.cell? ⟨b, j * 3 + 2, none⟩ = some (.slice pa ps[j] pc)) := hgs
  have hb8 : ∀ n, n ≤ 20 → i3.bytes * n ≤ 281474976710656 := fun n hn => by rw [hz32]; omega
  have hwr : IntKind.i64.wrap ((ps.length : Int) + 1) = (ps.length : Int) + 1 := by rw [IntKind.wrap_i64]; omega
  clear h hgs
  go_enter Ybaf.func21, Ybaf.ntmps21
  go_wp2_with fail
  go_cut [2, 3] (fun s2 s3 wx => Goes w.heap.size w [] wx [rowOf 3 s2 [], rowOf 3 s3 []])
  case first =>
    refine wp_region_noPanic ?_
    refine wp_region_till (by kernel_rfl) (fun _ => True) (fun w' => w'.cell? ⟨nb, 2, none⟩ = some (.slice ga ps.length gc) ∧ w'.cell? ⟨nb, 4, none⟩ = some (.slice pa ps.sum pc)) [] 15 rfl ?_
    have hS0 : w.drew.cell? ⟨nb, 2, none⟩ = some (.slice ga ps.length gc) ∧ w.drew.cell? ⟨nb, 4, none⟩ = some (.slice pa ps.sum pc) := ⟨g2, g4⟩
    have g0 := (Goes.refl (Own.nil w w.heap.size) (Nat.le_refl _)).drew
    refine till_take0 0 (some 6) (v := ?va0) rfl rfl (by kernel_rfl) (by kernel_rfl) (by kernel_rfl) (fun _ _ _ h => h) (Or.inl ⟨by rfl, ?ya0⟩) hS0 ?ra0
    case ya0 => intro w' ⟨s1, s2⟩; go_simp; all_goals with_reducible rfl
    simp only [Act.put, List.setIfInBounds_toArray, List.set_cons_zero, List.set_cons_succ]
    refine till_take0 1 (some 7) (v := ?va1) rfl rfl (by kernel_rfl) (by kernel_rfl) (by kernel_rfl) (fun _ _ _ h => h) (Or.inl ⟨by rfl, ?ya1⟩) hS0 ?ra1
    case ya1 => intro w' ⟨s1, s2⟩; go_simp; all_goals with_reducible rfl
    simp only [Act.put, List.setIfInBounds_toArray, List.set_cons_zero, List.set_cons_succ]
    refine till_take0 2 (some 8) (v := ?va2) rfl rfl (by kernel_rfl) (by kernel_rfl) (by kernel_rfl) (fun _ _ _ h => h) (Or.inl ⟨by rfl, ?ya2⟩) hS0 ?ra2
    case ya2 => intro w' ⟨s1, s2⟩; go_simp; all_goals with_reducible rfl
    simp only [Act.put, List.setIfInBounds_toArray, List.set_cons_zero, List.set_cons_succ]
    refine till_take0 3 (some 9) (v := ?va3) rfl rfl (by kernel_rfl) (by kernel_rfl) (by kernel_rfl) (fun _ _ _ h => h) (Or.inl ⟨by rfl, ?ya3⟩) hS0 ?ra3
    case ya3 => intro w' ⟨s1, s2⟩; go_simp; all_goals with_reducible rfl
    simp only [Act.put, List.setIfInBounds_toArray, List.set_cons_zero, List.set_cons_succ]
    refine till_take0 4 (some 10) (v := ?va4) rfl rfl (by kernel_rfl) (by kernel_rfl) (by kernel_rfl) (fun _ _ _ h => h) (Or.inl ⟨by rfl, ?ya4⟩) hS0 ?ra4
    case ya4 => intro w' ⟨s1, s2⟩; go_simp; all_goals with_reducible rfl
    simp only [Act.put, List.setIfInBounds_toArray, List.set_cons_zero, List.set_cons_succ]
    refine till_take0 6 (some 12) (v := ?va6) rfl rfl (by kernel_rfl) (by kernel_rfl) (by kernel_rfl) (fun _ _ _ h => h) (Or.inl ⟨by rfl, ?ya6⟩) hS0 ?ra6
    case ya6 => intro w' ⟨s1, s2⟩; go_simp; all_goals with_reducible rfl
    simp only [Act.put, List.setIfInBounds_toArray, List.set_cons_zero, List.set_cons_succ]
    refine till_take0 7 (some 13) (v := ?va7) rfl rfl (by kernel_rfl) (by kernel_rfl) (by kernel_rfl) (fun _ _ _ h => h) (Or.inl ⟨by rfl, ?ya7⟩) hS0 ?ra7
    case ya7 => intro w' ⟨s1, s2⟩; go_simp; all_goals with_reducible rfl
    simp only [Act.put, List.setIfInBounds_toArray, List.set_cons_zero, List.set_cons_succ]
    refine till_take0 8 (some 14) (v := ?va8) rfl rfl (by kernel_rfl) (by kernel_rfl) (by kernel_rfl) (fun _ _ _ h => h) (Or.inl ⟨by rfl, ?ya8⟩) hS0 ?ra8
    case ya8 => intro w' ⟨s1, s2⟩; go_simp; all_goals with_reducible rfl
    simp only [Act.put, List.setIfInBounds_toArray, List.set_cons_zero, List.set_cons_succ]
    refine till_take0 9 (some 15) (v := ?va9) rfl rfl (by kernel_rfl) (by kernel_rfl) (by kernel_rfl) (fun _ _ _ h => h) (Or.inl ⟨by rfl, ?ya9⟩) hS0 ?ra9
    case ya9 => intro w' ⟨s1, s2⟩; go_simp; all_goals with_reducible rfl
    simp only [Act.put, List.setIfInBounds_toArray, List.set_cons_zero, List.set_cons_succ]
    refine till_take0 10 (some 16) (v := ?va10) rfl rfl (by kernel_rfl) (by kernel_rfl) (by kernel_rfl) (fun _ _ _ h => h) (Or.inl ⟨by rfl, ?ya10⟩) hS0 ?ra10
    case ya10 => intro w' ⟨s1, s2⟩; go_simp; all_goals with_reducible rfl
    simp only [Act.put, List.setIfInBounds_toArray, List.set_cons_zero, List.set_cons_succ]
    refine till_take0 11 (some 17) (v := ?va11) rfl rfl (by kernel_rfl) (by kernel_rfl) (by kernel_rfl) (fun _ _ _ h => h) (Or.inl ⟨by rfl, ?ya11⟩) hS0 ?ra11
    case ya11 => intro w' ⟨s1, s2⟩; go_simp; all_goals with_reducible rfl
    simp only [Act.put, List.setIfInBounds_toArray, List.set_cons_zero, List.set_cons_succ]
    refine till_two (i := 5) (j := 12) (by kernel_rfl) rfl rfl rfl rfl (fun K hK => ?_) (fun K hK => ?_)
    · refine wp_make_own w.drew (.const (.int .i64 0)) (.tmp 10) 27 (some 11) rfl rfl w.heap.size 3 i3 (.int .i64 0) 1 Ybaf.underlying27 hi3 hz30 hz31 .i64 .i64 _ (ps.sum) rfl rfl (by simp) (hb8 _ (by omega)) (by unfold maxLen; omega) (by show w.heap.size ≤ w.heap.size; omega) ?_
      intro w1 r1 h1
      have c1 : w1.cell? ⟨nb, 2, none⟩ = some (.slice ga ps.length gc) ∧ w1.cell? ⟨nb, 4, none⟩ = some (.slice pa ps.sum pc) := ⟨h1.cell hS0.1 (by simp), h1.cell hS0.2 (by simp)⟩
      refine hK _ _ (.inr id) (fun _ => c1) ?_
      clear hK K
      simp only [Act.put, List.setIfInBounds_toArray, List.set_cons_zero, List.set_cons_succ]
      have gA := g0.cons (r := rowOf 3 _ []) r1 h1 (fun k hk => by simp [rowOf, Value.ownBlock] at hk; subst hk; exact Nat.le_refl _)
      refine till_take0 13 (some 2) (v := ?vb513) rfl rfl (by kernel_rfl) (by kernel_rfl) (by kernel_rfl) (fun _ _ _ h => h) (Or.inl ⟨by rfl, ?yb513⟩) c1 ?rb513
      case yb513 => intro w' s0; go_simp; all_goals with_reducible rfl
      simp only [Act.put, List.setIfInBounds_toArray, List.set_cons_zero, List.set_cons_succ]
      refine till_one (i := 12) (by kernel_rfl) rfl rfl fun K hK => ?_
      refine wp_make_own w1 (.const (.int .i64 0)) (.tmp 17) 27 (some 18) rfl rfl w.heap.size 3 i3 (.int .i64 0) 1 Ybaf.underlying27 hi3 hz30 hz31 .i64 .i64 _ (ps.length + 1) rfl rfl (by simp) (hb8 _ (by omega)) (by unfold maxLen; omega) gA.size ?_
      intro w2 r2 h2
      have c2 : w2.cell? ⟨nb, 2, none⟩ = some (.slice ga ps.length gc) ∧ w2.cell? ⟨nb, 4, none⟩ = some (.slice pa ps.sum pc) := ⟨h2.cell c1.1 (by simp), h2.cell c1.2 (by simp)⟩
      refine hK _ _ (.inr id) (fun _ => c2) ?_
      clear hK K
      simp only [Act.put, List.setIfInBounds_toArray, List.set_cons_zero, List.set_cons_succ]
      have gB := gA.cons (r := rowOf 3 _ []) r2 h2 (fun k hk => by simp [rowOf, Value.ownBlock] at hk; subst hk; exact Nat.le_refl _)
      refine till_take0 14 (some 3) (v := ?vb514) rfl rfl (by kernel_rfl) (by kernel_rfl) (by kernel_rfl) (fun _ _ _ h => h) (Or.inl ⟨by rfl, ?yb514⟩) c2 ?rb514
      case yb514 => intro w' s0; go_simp; all_goals with_reducible rfl
      simp only [Act.put, List.setIfInBounds_toArray, List.set_cons_zero, List.set_cons_succ]
      refine till_done (by kernel_rfl) ?_ _
      refine NoPanic.normal ?_
      go_wp2_with fail
      go_meet
      exact gB.swap
    · refine wp_make_own w.drew (.const (.int .i64 0)) (.tmp 17) 27 (some 18) rfl rfl w.heap.size 3 i3 (.int .i64 0) 1 Ybaf.underlying27 hi3 hz30 hz31 .i64 .i64 _ (ps.length + 1) rfl rfl (by simp) (hb8 _ (by omega)) (by unfold maxLen; omega) (by show w.heap.size ≤ w.heap.size; omega) ?_
      intro w1 r1 h1
      have c1 : w1.cell? ⟨nb, 2, none⟩ = some (.slice ga ps.length gc) ∧ w1.cell? ⟨nb, 4, none⟩ = some (.slice pa ps.sum pc) := ⟨h1.cell hS0.1 (by simp), h1.cell hS0.2 (by simp)⟩
      refine hK _ _ (.inr id) (fun _ => c1) ?_
      clear hK K
      simp only [Act.put, List.setIfInBounds_toArray, List.set_cons_zero, List.set_cons_succ]
      have gA := g0.cons (r := rowOf 3 _ []) r1 h1 (fun k hk => by simp [rowOf, Value.ownBlock] at hk; subst hk; exact Nat.le_refl _)
      refine till_one (i := 5) (by kernel_rfl) rfl rfl fun K hK => ?_
      refine wp_make_own w1 (.const (.int .i64 0)) (.tmp 10) 27 (some 11) rfl rfl w.heap.size 3 i3 (.int .i64 0) 1 Ybaf.underlying27 hi3 hz30 hz31 .i64 .i64 _ (ps.sum) rfl rfl (by simp) (hb8 _ (by omega)) (by unfold maxLen; omega) gA.size ?_
      intro w2 r2 h2
      have c2 : w2.cell? ⟨nb, 2, none⟩ = some (.slice ga ps.length gc) ∧ w2.cell? ⟨nb, 4, none⟩ = some (.slice pa ps.sum pc) := ⟨h2.cell c1.1 (by simp), h2.cell c1.2 (by simp)⟩
      refine hK _ _ (.inr id) (fun _ => c2) ?_
      clear hK K
      simp only [Act.put, List.setIfInBounds_toArray, List.set_cons_zero, List.set_cons_succ]
      have gB := gA.cons (r := rowOf 3 _ []) r2 h2 (fun k hk => by simp [rowOf, Value.ownBlock] at hk; subst hk; exact Nat.le_refl _)
      refine till_take0 13 (some 2) (v := ?vb1213) rfl rfl (by kernel_rfl) (by kernel_rfl) (by kernel_rfl) (fun _ _ _ h => h) (Or.inl ⟨by rfl, ?yb1213⟩) c2 ?rb1213
      case yb1213 => intro w' s0; go_simp; all_goals with_reducible rfl
      simp only [Act.put, List.setIfInBounds_toArray, List.set_cons_zero, List.set_cons_succ]
      refine till_take0 14 (some 3) (v := ?vb1214) rfl rfl (by kernel_rfl) (by kernel_rfl) (by kernel_rfl) (fun _ _ _ h => h) (Or.inl ⟨by rfl, ?yb1214⟩) c2 ?rb1214
      case yb1214 => intro w' s0; go_simp; all_goals with_reducible rfl
      simp only [Act.put, List.setIfInBounds_toArray, List.set_cons_zero, List.set_cons_succ]
      refine till_done (by kernel_rfl) ?_ _
      refine NoPanic.normal ?_
      go_wp2_with fail
      go_meet
      exact gB
  case rest =>
    have G0 := hcut
    obtain ⟨w1, rfl⟩ : ∃ x : World, x = wc := ⟨_, rfl⟩
    have g2' := (G0.below.cell (World.block_lt_of_cell? w _ g2)).trans g2
    go_wp2_with fail
    go_loopw [2, 3, 24] (fun a b c wr => LayRel w.heap.size w ps a b c wr) (fun _ _ c _ => ps.length - (intOf c).toNat)
    case atStart => exact ⟨0, Nat.zero_le _, rfl, by simpa [groupL, startsL, ivs] using G0⟩
    case round =>
      obtain ⟨k, hk, rfl, gW⟩ := hrel
      by_cases hlt : k < ps.length
      · obtain ⟨b, qa, qc, rfl, c0, c1, c2⟩ := HGS.out k hlt
        have e0 := (gW.below.cell (World.block_lt_of_cell? w _ c0)).trans c0
        have e1 := (gW.below.cell (World.block_lt_of_cell? w _ c1)).trans c1
        have e2 := (gW.below.cell (World.block_lt_of_cell? w _ c2)).trans c2
        obtain ⟨p, hpk⟩ : ∃ p, p = ps[k] := ⟨_, rfl⟩
        rw [← hpk] at e2
        have hsum := sum_take_succ hlt
        have hsl := sum_take_le ps (k + 1)
        rw [← hpk] at hsum
        have HPK : Hid (p = ps[k]) := hpk
        obtain ⟨GL, hGL⟩ : ∃ l, l = groupL 0 (ps.take k) := ⟨_, rfl⟩
        obtain ⟨SL, hSL⟩ : ∃ l, l = startsL 0 (ps.take k) := ⟨_, rfl⟩
        rw [← hGL, ← hSL] at gW
        have hGl : GL.length = (ps.take k).sum := by rw [hGL, groupL_length]
        have hSl : SL.length = k := by rw [hSL, startsL_length, List.length_take]; omega
        have HGL : Hid (GL = groupL 0 (ps.take k)) := hGL
        have HSL : Hid (SL = startsL 0 (ps.take k)) := hSL
        have HGl : Hid (GL.length = (ps.take k).sum) := hGl
        have hb1 : (ivs SL).length + 1 ≤ 100000000 := by rw [ivs_length]; omega
        have hgl12 : GL.length + p ≤ 12 := by omega
        have hki : (k : Int) < (ps.length : Int) := by omega
        obtain ⟨gao, gcap, hgf⟩ := (gW.rowAt 0 rfl).form
        clear hpk hGL hSL hGl hsum hsl c0 c1 c2
        have gX := gW.alloc (.cells #[.string ⟨#[]⟩, .string ⟨#[]⟩, .slice qa p qc] 57)
        rw [ivs_length] at hgf
        subst hgf
        go_upto_region 5 with fail
        obtain ⟨wq, hwq⟩ : ∃ W, W = wr.alloc (Obj.cells #[Value.string { data := #[] }, Value.string { data := #[] }, Value.slice qa p qc] 57) := ⟨_, rfl⟩
        obtain ⟨vb, hvb⟩ : ∃ v, v = wr.heap.size := ⟨_, rfl⟩
        have y2 : wq.cell? ⟨vb, 2, none⟩ = some (.slice qa p qc) := by rw [hwq, hvb]; simp
        have hvS : Safe [rowOf 3 (Value.slice gao GL.length gcap) (ivs GL), rowOf 3 u3 (ivs SL)] ⟨vb, 2, none⟩ := by rw [hvb]; exact safe_new gW.own 2
        rw [← hwq] at gX
        rw [← hwq, ← hvb]
        clear hwq hvb e0 e1 e2
        have hsrc := Src.ofSlice (P := Ybaf.prog) (size := 1) (wq.alloc (.cells #[.int .i64 (GL.length : Int)] 3)) Ybaf.underlying27 ⟨wq.heap.size, 0, none⟩ 1 1 [.int .i64 (GL.length : Int)] rfl (news_alloc wq [.int .i64 (GL.length : Int)] 3) (by intro u hu; simp at hu; subst hu; rfl)
        go_upto_region 6 with (at_builtin; refine wpList_append_rowK _ rfl (.tmp 29) (.tmp 32) 27 27 rfl w.heap.size 3 i3 (.int .i64 0) 1 8 Ybaf.underlying27 hi3 hz30 hz31 hz32 rfl u3 (ivs SL).length (ivs SL) rfl ((gX.rowAt 1 rfl).alloc _) _ 1 [.int .i64 (GL.length : Int)] rfl hsrc (max_ok hb1) (bytes_ok hb1 (by decide)) (by have := gX.size; simp; omega) ?_; intro sv1 w3 h1 h2 h3 h4 h5)
        have gS := (Goes.refl gX.own gX.size).push 1 rfl rfl h1 h2 (by simpa using h3) (by simpa using h4)
        have y2' := (gS.safe _ _ y2 hvS).1
        have gY := gX.trans gS
        clear gS h1 h2 h3 h4 h5 y2 hvS
        go_wp2_with fail
        go_loopw [2, 37] (fun a b wi => LayIn w.heap.size w GL SL k p sv1 a b wi) (fun _ b _ => p - (intOf b).toNat)
        case atStart => exact ⟨0, Nat.zero_le _, rfl, by simpa using gY⟩
        case round =>
          obtain ⟨m, hm, rfl, gZ⟩ := hrel
          by_cases hml : m < p
          · have hmi : (m : Int) < (p : Int) := by omega
            obtain ⟨GM, hGM⟩ : ∃ l, l = GL ++ List.replicate m k := ⟨_, rfl⟩
            rw [← hGM] at gZ
            have hGMl : GM.length ≤ 12 := by rw [hGM]; simp; omega
            have HGM : Hid (GM = GL ++ List.replicate m k) := hGM
            clear hGM
            have hb2 : (ivs GM).length + 1 ≤ 100000000 := by rw [ivs_length]; omega
            obtain ⟨wi, rfl⟩ : ∃ x : World, x = wr := ⟨_, rfl⟩
            have hsrc2 := Src.ofSlice (P := Ybaf.prog) (size := 1) (wi.alloc (.cells #[.int .i64 (k : Int)] 3)) Ybaf.underlying27 ⟨wi.heap.size, 0, none⟩ 1 1 [.int .i64 (k : Int)] rfl (news_alloc wi [.int .i64 (k : Int)] 3) (by intro u hu; simp at hu; subst hu; rfl)
            go_wp2_with (at_builtin; refine wpList_append_rowK _ rfl (.tmp 39) (.tmp 41) 27 27 rfl w.heap.size 3 i3 (.int .i64 0) 1 8 Ybaf.underlying27 hi3 hz30 hz31 hz32 rfl u2 (ivs GM).length (ivs GM) rfl ((gZ.rowAt 0 rfl).alloc _) _ 1 [.int .i64 (k : Int)] rfl hsrc2 (max_ok hb2) (bytes_ok hb2 (by decide)) (by have := gZ.size; simp; omega) ?_; intro gv1 w4 h1 h2 h3 h4 h5)
            go_roundw
            case rel =>
              refine ⟨m + 1, hml, by go_num, ?_⟩
              have := gZ.push 0 rfl rfl h1 h2 (by simpa using h3) (by simpa using h4)
              have e : ivs GM ++ [Value.int .i64 (k : Int)] = ivs (GL ++ List.replicate (m + 1) k) := by
                rw [HGM.out, List.replicate_succ', ← List.append_assoc]; simp [ivs, iv]
              rw [e] at this
              exact this
            case measure => simp [intOf]; omega
          · have hmi : decide ((m : Int) < (p : Int)) = false := decide_eq_false (by omega)
            have hme : m = p := by omega
            subst hme
            go_wp2
            go_roundw
            case rel =>
              refine ⟨k + 1, hlt, by go_num, ?_⟩
              have e1 : groupL 0 (ps.take (k + 1)) = GL ++ List.replicate m k := by
                rw [List.take_succ_eq_append_getElem hlt, groupL_append, ← HGL.out, ← HPK.out, List.length_take]
                simp [groupL]
                omega
              have e2 : startsL 0 (ps.take (k + 1)) = SL ++ [GL.length] := by
                rw [List.take_succ_eq_append_getElem hlt, startsL_append, ← HSL.out, HGl.out]
                simp [startsL]
              rw [e1, e2, ivs_append SL]
              exact gZ
            case measure => simp [intOf]; omega
      · have hki : decide ((k : Int) < (ps.length : Int)) = false := decide_eq_false (by omega)
        have hke : k = ps.length := by omega
        subst hke
        rw [List.take_length] at gW
        obtain ⟨GL, hGL⟩ : ∃ l, l = groupL 0 ps := ⟨_, rfl⟩
        obtain ⟨SL, hSL⟩ : ∃ l, l = startsL 0 ps := ⟨_, rfl⟩
        rw [← hGL, ← hSL] at gW
        have HGl : Hid (GL.length = ps.sum) := by show _ = _; rw [hGL, groupL_length]
        have HSl : Hid (SL.length = ps.length) := by show _ = _; rw [hSL, startsL_length]
        have hgl : GL.length ≤ 12 := by have := HGl.out; omega
        have hb1 : (ivs SL).length + 1 ≤ 100000000 := by rw [ivs_length]; have := HSl.out; omega
        obtain ⟨gao, gcap, hgf⟩ := (gW.rowAt 0 rfl).form
        rw [ivs_length] at hgf
        subst hgf
        have HGL : Hid (GL = groupL 0 ps) := hGL
        have HSL : Hid (SL = startsL 0 ps) := hSL
        clear hGL hSL
        obtain ⟨wq, rfl⟩ : ∃ x : World, x = wr := ⟨_, rfl⟩
        have hsrc := Src.ofSlice (P := Ybaf.prog) (size := 1) (wq.alloc (.cells #[.int .i64 (GL.length : Int)] 3)) Ybaf.underlying27 ⟨wq.heap.size, 0, none⟩ 1 1 [.int .i64 (GL.length : Int)] rfl (news_alloc wq [.int .i64 (GL.length : Int)] 3) (by intro u hu; simp at hu; subst hu; rfl)
        go_wp2_with (at_builtin; refine wpList_append_rowK _ rfl (.tmp 46) (.tmp 49) 27 27 rfl w.heap.size 3 i3 (.int .i64 0) 1 8 Ybaf.underlying27 hi3 hz30 hz31 hz32 rfl u3 (ivs SL).length (ivs SL) rfl ((gW.rowAt 1 rfl).alloc _) _ 1 [.int .i64 (GL.length : Int)] rfl hsrc (max_ok hb1) (bytes_ok hb1 (by decide)) (by have := gW.size; simp; omega) ?_; intro sv1 w3 h1 h2 h3 h4 h5)
        go_ret2
        have gE := gW.push 1 rfl rfl h1 h2 (by simpa using h3) (by simpa using h4)
        obtain ⟨sao, scap, hsf⟩ := h1.form
        have r0 : RowM w3 w.heap.size 3 1 (.slice gao GL.length gcap) (ivs GL).length (ivs GL) := gE.own.get 0 rfl
        subst hsf
        refine ⟨gao, gcap, sao, scap, ?_, ?_, ?_, gE.below⟩
        · rw [← HGl.out, ← HSl.out, ivs_length]
          rfl
        · rw [← HGL.out]
          exact natsAt_row r0
        · rw [← HSL.out, ← HGl.out]
          have e : ivs SL ++ [Value.int .i64 (GL.length : Int)] = ivs (SL ++ [GL.length]) := by simp [ivs, iv]
          rw [e] at h1
          exact natsAt_row h1

end Go.Proofs.YbulkaxksFmt
