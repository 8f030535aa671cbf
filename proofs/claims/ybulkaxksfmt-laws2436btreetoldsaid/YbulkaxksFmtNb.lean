/-
  (*Network).neighbours.
-/
import Derived.Test.YbulkaxksFmtNest
set_option linter.unusedVariables false
set_option linter.unusedSimpArgs false
namespace Go.Proofs.YbulkaxksFmt
open Go.RowKit

/-- How many links end at a group. -/
def cntP (prs : List (Nat × Nat)) (a : Nat) : Nat := prs.countP (fun p => p.1 == a) + prs.countP (fun p => p.2 == a)
def degN (ps : List Nat) (all : Bool) (prs : List (Nat × Nat)) (a : Nat) : Nat := if all then ps.length - 1 else cntP prs a

/-- Lists of group numbers, of given lengths. -/
def NbOk (g : Nat) (D : Nat → Nat) (ls : List (List Nat)) : Prop := ls.length = g ∧ (∀ l ∈ ls, ∀ x ∈ l, x < g) ∧ ∀ a (h : a < ls.length), ls[a].length = D a

theorem nbOk_step {g a x : Nat} {D D' : Nat → Nat} {ls : List (List Nat)} (h : NbOk g D ls) (ha : a < ls.length) (hx : x < g) (hD : ∀ c, D' c = if c = a then D c + 1 else D c) : NbOk g D' (ls.set a (ls[a] ++ [x])) := by
  obtain ⟨h1, h2, h3⟩ := h
  refine ⟨by simpa using h1, ?_, ?_⟩
  · intro l hl y hy
    rcases List.mem_or_eq_of_mem_set hl with h | h
    · exact h2 l h y hy
    · rw [h] at hy
      rcases List.mem_append.1 hy with h | h
      · exact h2 _ (List.getElem_mem ha) y h
      · simp at h; omega
  · intro c hc
    rw [hD c]
    have hc' : c < ls.length := by simpa using hc
    by_cases hca : c = a
    · subst hca; rw [List.getElem_set_self, if_pos rfl, List.length_append, h3 c hc']; rfl
    · rw [List.getElem_set_ne (fun e => hca e.symm), if_neg hca, h3 c hc']
theorem NbOk.congr {g : Nat} {D D' : Nat → Nat} {ls : List (List Nat)} (h : NbOk g D ls) (hD : ∀ c, c < g → D' c = D c) : NbOk g D' ls :=
  ⟨h.1, h.2.1, fun a ha => by rw [h.2.2 a ha, hD a (by have := h.1; omega)]⟩

def NbRel (B : Nat) (w : World) (g ob : Nat) (D : Nat → Nat) (wr : World) : Prop :=
  ∃ (vs : List Value) (ls : List (List Nat)), vs.length = g ∧ Hid (NbOk g D ls) ∧ Goes B w [] wr (nest (.slice (some ⟨ob, 0, none⟩) vs.length g) vs ls)

set_option maxRecDepth 100000 in
set_option maxHeartbeats 400000 in
theorem neighbours_any (nb : Nat) (ps : List Nat) (all : Bool) (prs : List (Nat × Nat)) (w : World) (h : NetAt w nb ps all prs) (hp : ps.length ≤ 4) (hpr : Hid (∀ p ∈ prs, p.1 < ps.length ∧ p.2 < ps.length ∧ p.1 ≠ p.2)) (hprl : prs.length ≤ 6) :
    Calls Ybaf.prog 20 #[.pointer (some ⟨nb, 0, none⟩)] w fun e w' => ∃ ob oc ls, e = .returned (.slice (some ⟨ob, 0, none⟩) ps.length oc) ∧ NbOk ps.length (degN ps all prs) ls ∧ NatssAt w' w.heap.size (some ⟨ob, 0, none⟩) ls ∧ Below w.heap.size w w' := by
  obtain ⟨i3, hi3, hz30, hz31, hz32⟩ := info_parts Ybaf.kinfo3
  obtain ⟨i27, hi27, hz270, hz271, hz272⟩ := info_parts Ybaf.kinfo27
  obtain ⟨ga, gc, g2, hgs⟩ := h.groups
  have g6 := h.allL
  obtain ⟨g, hg⟩ : ∃ g, g = ps.length := ⟨_, rfl⟩
  have HG : Hid (g = ps.length) := hg
  rw [← hg] at g2 hp
  clear hg
  have hb27 : i27.bytes * g ≤ 281474976710656 := by rw [hz272]; omega
  go_enter Ybaf.func20, Ybaf.ntmps20
  go_upto_region 2 with (at_make; refine wpList_make_full _ rfl (.tmp 12) (.tmp 12) 42 rfl w.heap.size 27 i27 (.slice none 0 0) 1 Ybaf.underlying42 hi27 hz270 hz271 .i64 .i64 _ _ g rfl rfl rfl rfl hb27 (by unfold maxLen; omega) (Nat.le_refl _) ?_; intro w1 hown hgrow)
  rw [made_nil] at hown
  have G0 : NbRel w.heap.size w g w.heap.size (fun _ => 0) w1 := by
    have g0 := (Goes.refl (Own.nil w w.heap.size) (Nat.le_refl _))
    have g1 := nest_nil g0 g
    rw [List.append_nil] at g1
    have g2 := g1.cons (r := rowOf 27 (.slice (some ⟨w.heap.size, 0, none⟩) g g) (List.replicate g (.slice none 0 0))) (by have := RowM.of_owns hown; unfold RowS.at rowOf; simpa using this) hgrow (fun k hk => by simp [rowOf, Value.ownBlock] at hk; omega)
    refine ⟨List.replicate g (.slice none 0 0), List.replicate g [], by simp, ⟨by simp, ?_, ?_⟩, by unfold nest; simpa using g2⟩
    · intro l hl x hx
      have := (List.mem_replicate.1 hl).2
      subst this
      cases hx
    · intro a ha; simp
  clear hown hgs
  have g6' : w1.cell? ⟨nb, 6, none⟩ = some (.bool all) := hgrow.cell g6 (by simp)
  have H : Hid (NetAt w nb ps all prs) := h
  have hbw : Below w.heap.size w w1 := (Below.refl _ _).grown hgrow (Nat.le_refl _) (fun _ h => by cases h)
  cases all
  · obtain ⟨la, lc, l8, hls⟩ := h.list rfl
    have l8' : w1.cell? ⟨nb, 8, none⟩ = some (.slice la prs.length lc) := hgrow.cell l8 (by simp)
    have HLS : Hid (∀ j (hj : j < prs.length), ∃ b, la = some ⟨b, 0, none⟩ ∧ w.cell? ⟨b, j * 2, none⟩ = some (iv prs[j].1) ∧ w.cell? ⟨b, j * 2 + 1, none⟩ = some (iv prs[j].2)) := hls
    clear h hls l8 g2 g6 hgrow
    go_wp2_with fail
    go_loopw [49] (fun i wr => ∃ k : Nat, k ≤ prs.length ∧ i = .int .i64 (k : Int) ∧ NbRel w.heap.size w g w.heap.size (cntP (prs.take k)) wr) (fun i _ => prs.length - (intOf i).toNat)
    case atStart => exact ⟨0, Nat.zero_le _, rfl, by have e : cntP (prs.take 0) = fun _ => 0 := (by funext c; simp [cntP]); rw [e]; exact G0⟩
    case round =>
      obtain ⟨i, hil, rfl, gR⟩ := hrel
      by_cases hlt : i < prs.length
      · obtain ⟨lb, hla, c0, c1⟩ := HLS.out i hlt
        subst hla
        obtain ⟨px, py, pn⟩ := hpr.out prs[i] (List.getElem_mem hlt)
        obtain ⟨vs, ls, hvl, HL, gW⟩ := gR
        have q0 := (gW.below.cell (World.block_lt_of_cell? w _ c0)).trans c0
        have q1 := (gW.below.cell (World.block_lt_of_cell? w _ c1)).trans c1
        rw [← HG.out] at px py
        have hcs : ∀ c, cntP (prs.take (i + 1)) c = (if c = prs[i].2 then (if c = prs[i].1 then cntP (prs.take i) c + 1 else cntP (prs.take i) c) + 1 else (if c = prs[i].1 then cntP (prs.take i) c + 1 else cntP (prs.take i) c)) := by
          intro c
          unfold cntP
          rw [List.take_succ_eq_append_getElem hlt, List.countP_append, List.countP_append]
          by_cases h1 : c = prs[i].1
          · by_cases h2 : c = prs[i].2
            · exact absurd (h1.symm.trans h2) pn
            · simp [h1, h2, beq_iff_eq]
              have : ¬ prs[i].2 = prs[i].1 := fun e => pn e.symm
              simp [this, pn]; omega
          · by_cases h2 : c = prs[i].2
            · have h1' : ¬ prs[i].1 = c := fun e => h1 e.symm
              have h1'' : ¬ prs[i].2 = prs[i].1 := fun e => pn e.symm
              simp [h2, pn, h1'']; omega
            · have h1' : ¬ prs[i].1 = c := fun e => h1 e.symm
              have h2' : ¬ prs[i].2 = c := fun e => h2 e.symm
              simp [h1, h2, h1', h2']
        obtain ⟨x, hx⟩ : ∃ x, x = prs[i].1 := ⟨_, rfl⟩
        obtain ⟨y, hy⟩ : ∃ y, y = prs[i].2 := ⟨_, rfl⟩
        rw [← hx] at q0 px pn hcs
        rw [← hy] at q1 py pn hcs
        unfold iv at q0 q1
        have HCS : Hid (∀ c, cntP (prs.take (i + 1)) c = (if c = y then (if c = x then cntP (prs.take i) c + 1 else cntP (prs.take i) c) + 1 else (if c = x then cntP (prs.take i) c + 1 else cntP (prs.take i) c))) := hcs
        have hcl : ∀ c, cntP (prs.take i) c ≤ 12 := fun c => by
          unfold cntP
          have h1 := List.countP_le_length (p := fun p : Nat × Nat => p.1 == c) (l := prs.take i)
          have h2 := List.countP_le_length (p := fun p : Nat × Nat => p.2 == c) (l := prs.take i)
          rw [List.length_take] at h1 h2
          omega
        have HCL : Hid (∀ c, cntP (prs.take i) c ≤ 12) := hcl
        have hxi : (x : Int) < (g : Int) := by omega
        have hyi : (y : Int) < (g : Int) := by omega
        have hii : (i : Int) < (prs.length : Int) := by omega
        clear hx hy hcs c0 c1 hcl
        go_upto_region 17 with fail
        obtain ⟨wq, hwq⟩ : ∃ W, W = wr.alloc (Obj.cells #[iv x, iv y] 59) := ⟨_, rfl⟩
        obtain ⟨vb, hvb⟩ : ∃ v, v = wr.heap.size := ⟨_, rfl⟩
        have z0 : wq.cell? ⟨vb, 0, none⟩ = some (.int .i64 (x : Int)) := by rw [hwq, hvb]; simp [iv]
        have z1 : wq.cell? ⟨vb, 1, none⟩ = some (.int .i64 (y : Int)) := by rw [hwq, hvb]; simp [iv]
        have hvS : ∀ j, j ≤ 1 → Safe (nest (.slice (some ⟨w.heap.size, 0, none⟩) vs.length g) vs ls) ⟨vb, j, none⟩ := fun j _ => by rw [hvb]; exact safe_new gW.own j
        have gX := gW.alloc (Obj.cells #[iv x, iv y] 59)
        rw [← hwq] at gX
        rw [show wr.alloc (Obj.cells #[Value.int IntKind.i64 (x : Int), Value.int IntKind.i64 (y : Int)] 59) = wq from hwq.symm, ← hvb]
        clear hwq hvb q0 q1 gW
        have havA : x < vs.length := by have := hvl; omega
        have halA : x < ls.length := by have := HL.out.1; omega
        obtain ⟨c0A, f0A, ⟨aoA, acA, hfA⟩, hrAA, hneA⟩ := nest_cell gX havA halA
        have hlenA : ls[x].length ≤ 13 := by have := HL.out.2.2 x halA; rw [this]; exact Nat.le_succ_of_le (HCL.out x)
        rw [hfA] at c0A hrAA hneA
        have HFA : Hid (vs[x] = .slice aoA ls[x].length acA) := hfA
        clear hfA
        have hbA : (ivs ls[x]).length + 1 ≤ 100000000 := by rw [ivs_length]; omega
        have hsrcA := Src.ofSlice (P := Ybaf.prog) (size := 1) (wq.alloc (.cells #[iv y] 3)).drew Ybaf.underlying27 ⟨wq.heap.size, 0, none⟩ 1 1 [iv y] rfl (news_alloc wq [iv y] 3) (by intro u hu; simp at hu; subst hu; rfl)
        go_wp2_with fail
        refine wp_region_noPanic ?_
        refine wp_region_till (by kernel_rfl) (fun w' => w'.cell? ⟨w.heap.size, x, none⟩ = some (.slice aoA ls[x].length acA)) (fun w' => w'.cell? ⟨vb, 0, none⟩ = some (.int .i64 (x : Int)) ∧ w'.cell? ⟨vb, 1, none⟩ = some (.int .i64 (y : Int))) [13] 14 rfl ?_
        have hSA : wq.drew.cell? ⟨w.heap.size, x, none⟩ = some (.slice aoA ls[x].length acA) := c0A
        have hZA : wq.drew.cell? ⟨vb, 0, none⟩ = some (.int .i64 (x : Int)) ∧ wq.drew.cell? ⟨vb, 1, none⟩ = some (.int .i64 (y : Int)) := ⟨z0, z1⟩
        have g1A : wq.grownBy (wq.alloc (.cells #[iv y] 3)) none := World.grownBy_alloc _ _ none
        have hS1A : (wq.alloc (.cells #[iv y] 3)).drew.cell? ⟨w.heap.size, x, none⟩ = some (.slice aoA ls[x].length acA) := g1A.cell c0A (by simp)
        have hZ1A : (wq.alloc (.cells #[iv y] 3)).drew.cell? ⟨vb, 0, none⟩ = some (.int .i64 (x : Int)) ∧ (wq.alloc (.cells #[iv y] 3)).drew.cell? ⟨vb, 1, none⟩ = some (.int .i64 (y : Int)) := ⟨g1A.cell z0 (by simp), g1A.cell z1 (by simp)⟩
        have hr1A : RowM (wq.alloc (.cells #[iv y] 3)).drew w.heap.size 3 1 (.slice aoA ls[x].length acA) (ivs ls[x]).length (ivs ls[x]) := hrAA.alloc _
        have hB1A : w.heap.size ≤ (wq.alloc (.cells #[iv y] 3)).drew.heap.size := by show w.heap.size ≤ (wq.alloc (.cells #[iv y] 3)).heap.size; have := gX.size; simp; omega
        refine till_take0 0 (some 53) (v := ?vA0) rfl rfl (by kernel_rfl) (by kernel_rfl) (by kernel_rfl) (fun _ _ _ h => h) (Or.inl ⟨by rfl, ?yA0⟩) hZA ?rA0
        case yA0 => intro w' ⟨s1, s2⟩; go_simp; all_goals with_reducible rfl
        simp only [Act.put, List.setIfInBounds_toArray, List.set_cons_zero, List.set_cons_succ]
        refine till_take0 1 (some 54) (v := ?vA1) rfl rfl (by kernel_rfl) (by kernel_rfl) (by kernel_rfl) (fun _ _ _ h => h) (Or.inl ⟨by rfl, ?yA1⟩) hZA ?rA1
        case yA1 => intro w' ⟨s1, s2⟩; go_simp; all_goals with_reducible rfl
        simp only [Act.put, List.setIfInBounds_toArray, List.set_cons_zero, List.set_cons_succ]
        refine till_take0 2 (some 55) (v := ?vA2) rfl rfl (by kernel_rfl) (by kernel_rfl) (by kernel_rfl) (fun _ _ _ h => h) (Or.inl ⟨by rfl, ?yA2⟩) hZA ?rA2
        case yA2 => intro w' ⟨s1, s2⟩; go_simp; all_goals with_reducible rfl
        simp only [Act.put, List.setIfInBounds_toArray, List.set_cons_zero, List.set_cons_succ]
        refine till_take0 3 (some 56) (v := ?vA3) rfl rfl (by kernel_rfl) (by kernel_rfl) (by kernel_rfl) (fun _ _ _ h => h) (Or.inl ⟨by rfl, ?yA3⟩) hZA ?rA3
        case yA3 => intro w' ⟨s1, s2⟩; go_simp; all_goals with_reducible rfl
        simp only [Act.put, List.setIfInBounds_toArray, List.set_cons_zero, List.set_cons_succ]
        refine till_take0 4 (some 57) (v := ?vA4) rfl rfl (by kernel_rfl) (by kernel_rfl) (by kernel_rfl) (fun _ _ _ h => h) (Or.inl ⟨by rfl, ?yA4⟩) hZA ?rA4
        case yA4 => intro w' ⟨s1, s2⟩; go_simp; all_goals with_reducible rfl
        simp only [Act.put, List.setIfInBounds_toArray, List.set_cons_zero, List.set_cons_succ]
        refine till_take0 5 (some 58) (v := ?vA5) rfl rfl (by kernel_rfl) (by kernel_rfl) (by kernel_rfl) (fun _ _ _ h => h) (Or.inl ⟨by rfl, ?yA5⟩) hZA ?rA5
        case yA5 => intro w' ⟨s1, s2⟩; go_simp; all_goals with_reducible rfl
        simp only [Act.put, List.setIfInBounds_toArray, List.set_cons_zero, List.set_cons_succ]
        refine till_take0 6 (some 59) (v := ?vA6) rfl rfl (by kernel_rfl) (by kernel_rfl) (by kernel_rfl) (fun _ _ _ h => h) (Or.inl ⟨by rfl, ?yA6⟩) hZA ?rA6
        case yA6 => intro w' ⟨s1, s2⟩; go_simp; all_goals with_reducible rfl
        simp only [Act.put, List.setIfInBounds_toArray, List.set_cons_zero, List.set_cons_succ]
        refine till_take 7 (some 60) (v := ?vA7) rfl rfl (by kernel_rfl) (by kernel_rfl) (by kernel_rfl) (by kernel_rfl) (fun _ _ _ h => h) (Or.inl ⟨by rfl, ?yA7⟩) hSA ?rA7
        case yA7 => intro w' s0; go_simp; all_goals with_reducible rfl
        simp only [Act.put, List.setIfInBounds_toArray, List.set_cons_zero, List.set_cons_succ]
        refine till_take0 8 (some 61) (v := ?vA8) rfl rfl (by kernel_rfl) (by kernel_rfl) (by kernel_rfl) (fun _ _ _ h => h) (Or.inl ⟨by rfl, ?yA8⟩) hZA ?rA8
        case yA8 => intro w' ⟨s1, s2⟩; go_simp; all_goals with_reducible rfl
        simp only [Act.put, List.setIfInBounds_toArray, List.set_cons_zero, List.set_cons_succ]
        refine till_take0 9 (some 62) (v := ?vA9) rfl rfl (by kernel_rfl) (by kernel_rfl) (by kernel_rfl) (fun _ _ _ h => h) (Or.inl ⟨by rfl, ?yA9⟩) hZA ?rA9
        case yA9 => intro w' ⟨s1, s2⟩; go_simp; all_goals with_reducible rfl
        simp only [Act.put, List.setIfInBounds_toArray, List.set_cons_zero, List.set_cons_succ]
        refine till_one (i := 10) (by kernel_rfl) rfl rfl fun K hK => ?_
        go_simp
        refine hK _ _ (.inr fun _ => hS1A) (fun _ => hZ1A) ?_
        clear hK K
        refine till_one (i := 11) (by kernel_rfl) rfl rfl fun K hK => ?_
        refine wp_append_rowK _ rfl (.tmp 60) (.tmp 63) 27 27 rfl w.heap.size 3 i3 (.int .i64 0) 1 8 Ybaf.underlying27 hi3 hz30 hz31 hz32 rfl (.slice aoA ls[x].length acA) (ivs ls[x]).length (ivs ls[x]) rfl hr1A _ 1 [iv y] rfl hsrcA (max_ok hbA) (bytes_ok hbA (by decide)) hB1A ?_
        intro vA w5A h1 h2 h3 h4 h5
        obtain ⟨vaA, vcA, hvfA⟩ := h1.form
        have h2' : (wq.alloc (.cells #[iv y] 3)).grownBy w5A (Value.slice aoA ls[x].length acA).ownBlock := ⟨h2.os, h2.tape, h2.output, h2.size, h2.block⟩
        have s5A := h2'.cell hS1A hneA
        have zsA : w5A.cell? ⟨vb, 0, none⟩ = some (.int .i64 (x : Int)) ∧ w5A.cell? ⟨vb, 1, none⟩ = some (.int .i64 (y : Int)) := by
          have gP := ((gX.alloc (.cells #[iv y] 3)).drew).pushS (x + 1) (e := 3) (v := vs[x]) (xs := ivs ls[x]) (news := [iv y]) (by unfold nest; simpa using inner_get havA halA) rfl h1 (by rw [HFA.out]; exact h2) (by rw [HFA.out]; simpa using h3) (by rw [HFA.out]; have hq := h4; rw [Nat.mul_one] at hq; exact hq)
          have gQ := (((Goes.refl gX.own gX.size).alloc (.cells #[iv y] 3)).drew).pushS (x + 1) (e := 3) (v := vs[x]) (xs := ivs ls[x]) (news := [iv y]) (by unfold nest; simpa using inner_get havA halA) rfl h1 (by rw [HFA.out]; exact h2) (by rw [HFA.out]; simpa using h3) (by rw [HFA.out]; have hq := h4; rw [Nat.mul_one] at hq; exact hq)
          exact ⟨(gQ.safe _ _ z0 (hvS 0 (by omega))).1, (gQ.safe _ _ z1 (hvS 1 (by omega))).1⟩
        have f5A : w5A.frozen? ⟨w.heap.size, x, none⟩ = false := by
          rw [h2'.frozen_far ⟨w.heap.size, x, none⟩ (World.block_lt_of_cell? _ _ hS1A) hneA]
          exact (World.frozen?_of_block (g1A.block _ (World.block_lt_of_cell? _ _ c0A) (by simp))).trans f0A
        have gEA := nest_step (o := .cells #[iv y] 3) gX havA halA h1 (by rw [HFA.out]; exact h2') (by rw [HFA.out]; simpa using h3) (by rw [HFA.out]; have hq := h4; rw [Nat.mul_one] at hq; exact hq)
        have gRA := nest_step (o := .cells #[iv y] 3) (Goes.refl gX.own gX.size) havA halA h1 (by rw [HFA.out]; exact h2') (by rw [HFA.out]; simpa using h3) (by rw [HFA.out]; have hq := h4; rw [Nat.mul_one] at hq; exact hq)
        have hsvA : ∀ j, j ≤ 1 → Safe (nest (.slice (some ⟨w.heap.size, 0, none⟩) (vs.set x vA).length g) (vs.set x vA) (ls.set x (ls[x] ++ [y]))) ⟨vb, j, none⟩ := fun j hj => by
          obtain rfl | rfl : j = 0 ∨ j = 1 := by omega
          · exact (gRA.safe _ _ z0 (hvS 0 (by omega))).2
          · exact (gRA.safe _ _ z1 (hvS 1 (by omega))).2
        clear gRA
        subst hvfA
        refine hK _ _ (.inr fun _ => s5A) (fun _ => zsA) ?_
        clear hK K
        simp only [Act.put, List.setIfInBounds_toArray, List.set_cons_zero, List.set_cons_succ]
        refine till_take0 12 (some 65) (v := ?vA12) rfl rfl (by kernel_rfl) (by kernel_rfl) (by kernel_rfl) (fun _ _ _ h => h) (Or.inl ⟨by rfl, ?yA12⟩) zsA ?rA12
        case yA12 => intro w' ⟨s1, s2⟩; go_simp; all_goals with_reducible rfl
        simp only [Act.put, List.setIfInBounds_toArray, List.set_cons_zero, List.set_cons_succ]
        obtain ⟨wA, hwA⟩ : ∃ W, W = w5A.setCell ⟨w.heap.size, x, none⟩ (.slice vaA ((ivs ls[x]).length + 1) vcA) := ⟨_, rfl⟩
        have hvobA : vb ≠ w.heap.size := by
          intro e
          have := hvS 0 (by omega) 0 (by simp [nest]) (by simp [nest, rowOf, Value.ownBlock, e])
          simp [nest, rowOf] at this
        have z0A : wA.cell? ⟨vb, 0, none⟩ = some (.int .i64 (x : Int)) := by rw [hwA]; exact (grown_setCell w5A _ x _).cell zsA.1 (by simpa using hvobA)
        have z1A : wA.cell? ⟨vb, 1, none⟩ = some (.int .i64 (y : Int)) := by rw [hwA]; exact (grown_setCell w5A _ x _).cell zsA.2 (by simpa using hvobA)
        rw [← hwA] at gEA
        refine till_one (i := 13) (by kernel_rfl) rfl rfl fun K hK => ?_
        go_simp
        refine hK _ _ (.inl (by decide)) (fun _ => ?_) ?_
        · show (w5A.setCell _ _).cell? _ = _ ∧ (w5A.setCell _ _).cell? _ = _
          exact ⟨(grown_setCell w5A _ x _).cell zsA.1 (by simpa using hvobA), (grown_setCell w5A _ x _).cell zsA.2 (by simpa using hvobA)⟩
        clear hK K
        refine till_done (by kernel_rfl) ?_ _
        refine NoPanic.normal ?_
        rw [← hwA]
        have gXA := gEA
        have HLA : Hid (NbOk g (fun c => if c = x then cntP (prs.take i) c + 1 else cntP (prs.take i) c) (ls.set x (ls[x] ++ [y]))) := nbOk_step HL.out halA py (fun c => rfl)
        have HVA : Hid ((vs.set x (.slice vaA ((ivs ls[x]).length + 1) vcA)).length = g) := by show _ = _; rw [List.length_set]; exact hvl
        have hvSA : ∀ j, j ≤ 1 → Safe (nest (.slice (some ⟨w.heap.size, 0, none⟩) (vs.set x (.slice vaA ((ivs ls[x]).length + 1) vcA)).length g) (vs.set x (.slice vaA ((ivs ls[x]).length + 1) vcA)) (ls.set x (ls[x] ++ [y]))) ⟨vb, j, none⟩ := hsvA
        generalize vs.set x (.slice vaA ((ivs ls[x]).length + 1) vcA) = vsA at gXA HVA hvSA
        generalize ls.set x (ls[x] ++ [y]) = lsA at gXA HLA hvSA
        clear zsA s5A f5A gEA h1 h2 h3 h4 h5 h2' hSA hZA hS1A hZ1A hr1A hsrcA hrAA c0A f0A hneA hsvA
        clear hwA
        have havB : y < vsA.length := by have := HVA.out; omega
        have halB : y < lsA.length := by have := HLA.out.1; omega
        obtain ⟨c0B, f0B, ⟨aoB, acB, hfB⟩, hrAB, hneB⟩ := nest_cell gXA havB halB
        have hlenB : lsA[y].length ≤ 13 := by have := HLA.out.2.2 y halB; rw [this]; have := HCL.out y; simp only []; split <;> omega
        rw [hfB] at c0B hrAB hneB
        have HFB : Hid (vsA[y] = .slice aoB lsA[y].length acB) := hfB
        clear hfB
        have hbB : (ivs lsA[y]).length + 1 ≤ 100000000 := by rw [ivs_length]; omega
        have hsrcB := Src.ofSlice (P := Ybaf.prog) (size := 1) (wA.alloc (.cells #[iv x] 3)).drew Ybaf.underlying27 ⟨wA.heap.size, 0, none⟩ 1 1 [iv x] rfl (news_alloc wA [iv x] 3) (by intro u hu; simp at hu; subst hu; rfl)
        go_wp2_with fail
        refine wp_region_noPanic ?_
        refine wp_region_till (by kernel_rfl) (fun w' => w'.cell? ⟨w.heap.size, y, none⟩ = some (.slice aoB lsA[y].length acB)) (fun w' => w'.cell? ⟨vb, 0, none⟩ = some (.int .i64 (x : Int)) ∧ w'.cell? ⟨vb, 1, none⟩ = some (.int .i64 (y : Int))) [13] 14 rfl ?_
        have hSB : wA.drew.cell? ⟨w.heap.size, y, none⟩ = some (.slice aoB lsA[y].length acB) := c0B
        have hZB : wA.drew.cell? ⟨vb, 0, none⟩ = some (.int .i64 (x : Int)) ∧ wA.drew.cell? ⟨vb, 1, none⟩ = some (.int .i64 (y : Int)) := ⟨z0A, z1A⟩
        have g1B : wA.grownBy (wA.alloc (.cells #[iv x] 3)) none := World.grownBy_alloc _ _ none
        have hS1B : (wA.alloc (.cells #[iv x] 3)).drew.cell? ⟨w.heap.size, y, none⟩ = some (.slice aoB lsA[y].length acB) := g1B.cell c0B (by simp)
        have hZ1B : (wA.alloc (.cells #[iv x] 3)).drew.cell? ⟨vb, 0, none⟩ = some (.int .i64 (x : Int)) ∧ (wA.alloc (.cells #[iv x] 3)).drew.cell? ⟨vb, 1, none⟩ = some (.int .i64 (y : Int)) := ⟨g1B.cell z0A (by simp), g1B.cell z1A (by simp)⟩
        have hr1B : RowM (wA.alloc (.cells #[iv x] 3)).drew w.heap.size 3 1 (.slice aoB lsA[y].length acB) (ivs lsA[y]).length (ivs lsA[y]) := hrAB.alloc _
        have hB1B : w.heap.size ≤ (wA.alloc (.cells #[iv x] 3)).drew.heap.size := by show w.heap.size ≤ (wA.alloc (.cells #[iv x] 3)).heap.size; have := gXA.size; simp; omega
        refine till_take0 0 (some 66) (v := ?vB0) rfl rfl (by kernel_rfl) (by kernel_rfl) (by kernel_rfl) (fun _ _ _ h => h) (Or.inl ⟨by rfl, ?yB0⟩) hZB ?rB0
        case yB0 => intro w' ⟨s1, s2⟩; go_simp; all_goals with_reducible rfl
        simp only [Act.put, List.setIfInBounds_toArray, List.set_cons_zero, List.set_cons_succ]
        refine till_take0 1 (some 67) (v := ?vB1) rfl rfl (by kernel_rfl) (by kernel_rfl) (by kernel_rfl) (fun _ _ _ h => h) (Or.inl ⟨by rfl, ?yB1⟩) hZB ?rB1
        case yB1 => intro w' ⟨s1, s2⟩; go_simp; all_goals with_reducible rfl
        simp only [Act.put, List.setIfInBounds_toArray, List.set_cons_zero, List.set_cons_succ]
        refine till_take0 2 (some 68) (v := ?vB2) rfl rfl (by kernel_rfl) (by kernel_rfl) (by kernel_rfl) (fun _ _ _ h => h) (Or.inl ⟨by rfl, ?yB2⟩) hZB ?rB2
        case yB2 => intro w' ⟨s1, s2⟩; go_simp; all_goals with_reducible rfl
        simp only [Act.put, List.setIfInBounds_toArray, List.set_cons_zero, List.set_cons_succ]
        refine till_take0 3 (some 69) (v := ?vB3) rfl rfl (by kernel_rfl) (by kernel_rfl) (by kernel_rfl) (fun _ _ _ h => h) (Or.inl ⟨by rfl, ?yB3⟩) hZB ?rB3
        case yB3 => intro w' ⟨s1, s2⟩; go_simp; all_goals with_reducible rfl
        simp only [Act.put, List.setIfInBounds_toArray, List.set_cons_zero, List.set_cons_succ]
        refine till_take0 4 (some 70) (v := ?vB4) rfl rfl (by kernel_rfl) (by kernel_rfl) (by kernel_rfl) (fun _ _ _ h => h) (Or.inl ⟨by rfl, ?yB4⟩) hZB ?rB4
        case yB4 => intro w' ⟨s1, s2⟩; go_simp; all_goals with_reducible rfl
        simp only [Act.put, List.setIfInBounds_toArray, List.set_cons_zero, List.set_cons_succ]
        refine till_take0 5 (some 71) (v := ?vB5) rfl rfl (by kernel_rfl) (by kernel_rfl) (by kernel_rfl) (fun _ _ _ h => h) (Or.inl ⟨by rfl, ?yB5⟩) hZB ?rB5
        case yB5 => intro w' ⟨s1, s2⟩; go_simp; all_goals with_reducible rfl
        simp only [Act.put, List.setIfInBounds_toArray, List.set_cons_zero, List.set_cons_succ]
        refine till_take0 6 (some 72) (v := ?vB6) rfl rfl (by kernel_rfl) (by kernel_rfl) (by kernel_rfl) (fun _ _ _ h => h) (Or.inl ⟨by rfl, ?yB6⟩) hZB ?rB6
        case yB6 => intro w' ⟨s1, s2⟩; go_simp; all_goals with_reducible rfl
        simp only [Act.put, List.setIfInBounds_toArray, List.set_cons_zero, List.set_cons_succ]
        refine till_take 7 (some 73) (v := ?vB7) rfl rfl (by kernel_rfl) (by kernel_rfl) (by kernel_rfl) (by kernel_rfl) (fun _ _ _ h => h) (Or.inl ⟨by rfl, ?yB7⟩) hSB ?rB7
        case yB7 => intro w' s0; go_simp; all_goals with_reducible rfl
        simp only [Act.put, List.setIfInBounds_toArray, List.set_cons_zero, List.set_cons_succ]
        refine till_take0 8 (some 74) (v := ?vB8) rfl rfl (by kernel_rfl) (by kernel_rfl) (by kernel_rfl) (fun _ _ _ h => h) (Or.inl ⟨by rfl, ?yB8⟩) hZB ?rB8
        case yB8 => intro w' ⟨s1, s2⟩; go_simp; all_goals with_reducible rfl
        simp only [Act.put, List.setIfInBounds_toArray, List.set_cons_zero, List.set_cons_succ]
        refine till_take0 9 (some 75) (v := ?vB9) rfl rfl (by kernel_rfl) (by kernel_rfl) (by kernel_rfl) (fun _ _ _ h => h) (Or.inl ⟨by rfl, ?yB9⟩) hZB ?rB9
        case yB9 => intro w' ⟨s1, s2⟩; go_simp; all_goals with_reducible rfl
        simp only [Act.put, List.setIfInBounds_toArray, List.set_cons_zero, List.set_cons_succ]
        refine till_one (i := 10) (by kernel_rfl) rfl rfl fun K hK => ?_
        go_simp
        refine hK _ _ (.inr fun _ => hS1B) (fun _ => hZ1B) ?_
        clear hK K
        refine till_one (i := 11) (by kernel_rfl) rfl rfl fun K hK => ?_
        refine wp_append_rowK _ rfl (.tmp 73) (.tmp 76) 27 27 rfl w.heap.size 3 i3 (.int .i64 0) 1 8 Ybaf.underlying27 hi3 hz30 hz31 hz32 rfl (.slice aoB lsA[y].length acB) (ivs lsA[y]).length (ivs lsA[y]) rfl hr1B _ 1 [iv x] rfl hsrcB (max_ok hbB) (bytes_ok hbB (by decide)) hB1B ?_
        intro vB w5B h1 h2 h3 h4 h5
        obtain ⟨vaB, vcB, hvfB⟩ := h1.form
        have h2' : (wA.alloc (.cells #[iv x] 3)).grownBy w5B (Value.slice aoB lsA[y].length acB).ownBlock := ⟨h2.os, h2.tape, h2.output, h2.size, h2.block⟩
        have s5B := h2'.cell hS1B hneB
        have zsB : w5B.cell? ⟨vb, 0, none⟩ = some (.int .i64 (x : Int)) ∧ w5B.cell? ⟨vb, 1, none⟩ = some (.int .i64 (y : Int)) := by
          have gP := ((gXA.alloc (.cells #[iv x] 3)).drew).pushS (y + 1) (e := 3) (v := vsA[y]) (xs := ivs lsA[y]) (news := [iv x]) (by unfold nest; simpa using inner_get havB halB) rfl h1 (by rw [HFB.out]; exact h2) (by rw [HFB.out]; simpa using h3) (by rw [HFB.out]; have hq := h4; rw [Nat.mul_one] at hq; exact hq)
          have gQ := (((Goes.refl gXA.own gXA.size).alloc (.cells #[iv x] 3)).drew).pushS (y + 1) (e := 3) (v := vsA[y]) (xs := ivs lsA[y]) (news := [iv x]) (by unfold nest; simpa using inner_get havB halB) rfl h1 (by rw [HFB.out]; exact h2) (by rw [HFB.out]; simpa using h3) (by rw [HFB.out]; have hq := h4; rw [Nat.mul_one] at hq; exact hq)
          exact ⟨(gQ.safe _ _ z0A (hvSA 0 (by omega))).1, (gQ.safe _ _ z1A (hvSA 1 (by omega))).1⟩
        have f5B : w5B.frozen? ⟨w.heap.size, y, none⟩ = false := by
          rw [h2'.frozen_far ⟨w.heap.size, y, none⟩ (World.block_lt_of_cell? _ _ hS1B) hneB]
          exact (World.frozen?_of_block (g1B.block _ (World.block_lt_of_cell? _ _ c0B) (by simp))).trans f0B
        have gEB := nest_step (o := .cells #[iv x] 3) gXA havB halB h1 (by rw [HFB.out]; exact h2') (by rw [HFB.out]; simpa using h3) (by rw [HFB.out]; have hq := h4; rw [Nat.mul_one] at hq; exact hq)
        have gRB := nest_step (o := .cells #[iv x] 3) (Goes.refl gXA.own gXA.size) havB halB h1 (by rw [HFB.out]; exact h2') (by rw [HFB.out]; simpa using h3) (by rw [HFB.out]; have hq := h4; rw [Nat.mul_one] at hq; exact hq)
        have hsvB : ∀ j, j ≤ 1 → Safe (nest (.slice (some ⟨w.heap.size, 0, none⟩) (vsA.set y vB).length g) (vsA.set y vB) (lsA.set y (lsA[y] ++ [x]))) ⟨vb, j, none⟩ := fun j hj => by
          obtain rfl | rfl : j = 0 ∨ j = 1 := by omega
          · exact (gRB.safe _ _ z0A (hvSA 0 (by omega))).2
          · exact (gRB.safe _ _ z1A (hvSA 1 (by omega))).2
        clear gRB
        subst hvfB
        refine hK _ _ (.inr fun _ => s5B) (fun _ => zsB) ?_
        clear hK K
        simp only [Act.put, List.setIfInBounds_toArray, List.set_cons_zero, List.set_cons_succ]
        refine till_take0 12 (some 78) (v := ?vB12) rfl rfl (by kernel_rfl) (by kernel_rfl) (by kernel_rfl) (fun _ _ _ h => h) (Or.inl ⟨by rfl, ?yB12⟩) zsB ?rB12
        case yB12 => intro w' ⟨s1, s2⟩; go_simp; all_goals with_reducible rfl
        simp only [Act.put, List.setIfInBounds_toArray, List.set_cons_zero, List.set_cons_succ]
        obtain ⟨wB, hwB⟩ : ∃ W, W = w5B.setCell ⟨w.heap.size, y, none⟩ (.slice vaB ((ivs lsA[y]).length + 1) vcB) := ⟨_, rfl⟩
        have hvobB : vb ≠ w.heap.size := by
          intro e
          have := hvSA 0 (by omega) 0 (by simp [nest]) (by simp [nest, rowOf, Value.ownBlock, e])
          simp [nest, rowOf] at this
        have z0B : wB.cell? ⟨vb, 0, none⟩ = some (.int .i64 (x : Int)) := by rw [hwB]; exact (grown_setCell w5B _ y _).cell zsB.1 (by simpa using hvobB)
        have z1B : wB.cell? ⟨vb, 1, none⟩ = some (.int .i64 (y : Int)) := by rw [hwB]; exact (grown_setCell w5B _ y _).cell zsB.2 (by simpa using hvobB)
        rw [← hwB] at gEB
        refine till_one (i := 13) (by kernel_rfl) rfl rfl fun K hK => ?_
        go_simp
        refine hK _ _ (.inl (by decide)) (fun _ => ?_) ?_
        · show (w5B.setCell _ _).cell? _ = _ ∧ (w5B.setCell _ _).cell? _ = _
          exact ⟨(grown_setCell w5B _ y _).cell zsB.1 (by simpa using hvobB), (grown_setCell w5B _ y _).cell zsB.2 (by simpa using hvobB)⟩
        clear hK K
        refine till_done (by kernel_rfl) ?_ _
        refine NoPanic.normal ?_
        rw [← hwB]
        have gXB := gEB
        have HLB : Hid (NbOk g (fun c => if c = y then (if c = x then cntP (prs.take i) c + 1 else cntP (prs.take i) c) + 1 else (if c = x then cntP (prs.take i) c + 1 else cntP (prs.take i) c)) (lsA.set y (lsA[y] ++ [x]))) := nbOk_step HLA.out halB px (fun c => rfl)
        have HVB : Hid ((vsA.set y (.slice vaB ((ivs lsA[y]).length + 1) vcB)).length = g) := by show _ = _; rw [List.length_set]; exact HVA.out
        have hvSB : ∀ j, j ≤ 1 → Safe (nest (.slice (some ⟨w.heap.size, 0, none⟩) (vsA.set y (.slice vaB ((ivs lsA[y]).length + 1) vcB)).length g) (vsA.set y (.slice vaB ((ivs lsA[y]).length + 1) vcB)) (lsA.set y (lsA[y] ++ [x]))) ⟨vb, j, none⟩ := hsvB
        generalize vsA.set y (.slice vaB ((ivs lsA[y]).length + 1) vcB) = vsB at gXB HVB hvSB
        generalize lsA.set y (lsA[y] ++ [x]) = lsB at gXB HLB hvSB
        clear zsB s5B f5B gEB h1 h2 h3 h4 h5 h2' hSB hZB hS1B hZ1B hr1B hsrcB hrAB c0B f0B hneB hsvB
        clear hwB
        go_wp2
        go_roundw
        case rel =>
          refine ⟨i + 1, hlt, by go_num, vsB, lsB, HVB.out, ?_, gXB⟩
          exact NbOk.congr HLB.out (fun c hc => HCS.out c)
        case measure => simp [intOf]; omega
      · have hii : decide ((i : Int) < (prs.length : Int)) = false := decide_eq_false (by omega)
        go_wp2
        go_ret
        obtain ⟨vs, ls, e1, e2, e3⟩ := gR
        have hke : i = prs.length := by omega
        subst hke
        rw [List.take_length] at e2
        refine ⟨w.heap.size, g, ls, by rw [← HG.out]; rfl, ?_, nest_natss e3 (by have := e2.out.1; omega), e3.below⟩
        rw [← HG.out]
        exact NbOk.congr e2.out (fun c hc => by simp [degN])
  · clear h g2 g6 hgrow
    go_wp2_with fail
    go_loopw [20] (fun i wr => ∃ k : Nat, k ≤ g ∧ i = .int .i64 (k : Int) ∧ NbRel w.heap.size w g w.heap.size (fun c => if c < k then g - 1 else 0) wr) (fun i _ => g - (intOf i).toNat)
    case atStart => exact ⟨0, Nat.zero_le _, rfl, by simpa using G0⟩
    case round =>
      obtain ⟨k, hk, rfl, gR⟩ := hrel
      by_cases hlt : k < g
      · have hki : (k : Int) < (g : Int) := by omega
        go_wp2_with fail
        go_loopw [25] (fun i wr => ∃ m : Nat, m ≤ g ∧ i = .int .i64 (m : Int) ∧ NbRel w.heap.size w g w.heap.size (fun c => if c < k then g - 1 else if c = k then (if m ≤ k then m else m - 1) else 0) wr) (fun i _ => g - (intOf i).toNat)
        case atStart =>
          refine ⟨0, Nat.zero_le _, rfl, ?_⟩
          have e : (fun c => if c < k then g - 1 else if c = k then (if 0 ≤ k then 0 else 0 - 1) else 0) = (fun c => if c < k then g - 1 else 0) := by funext c; simp
          rw [e]; exact gR
        case round =>
          obtain ⟨m, hm, rfl, gM⟩ := hrel
          by_cases hml : m < g
          · have hmi : (m : Int) < (g : Int) := by omega
            by_cases hmk : m = k
            · subst hmk
              go_wp2
              go_roundw
              case rel =>
                refine ⟨m + 1, hml, by go_num, ?_⟩
                obtain ⟨vs, ls, e1, e2, e3⟩ := gM
                refine ⟨vs, ls, e1, NbOk.congr e2.out (fun c hc => ?_), e3⟩
                by_cases h1 : c < m
                · simp [h1]
                · by_cases h2 : c = m
                  · subst h2; simp
                  · simp [h1, h2]
              case measure => simp [intOf]; omega
            · have hmk' : ¬ (m : Int) = (k : Int) := by omega
              obtain ⟨vs, ls, hvl, HL, gW⟩ := gM
              have hav : k < vs.length := by omega
              have hal : k < ls.length := by have := HL.out.1; omega
              obtain ⟨c0, f0, ⟨ao, acap, hf⟩, hrA, hne⟩ := nest_cell gW hav hal
              have hlen : ls[k].length ≤ 4 := by have := HL.out.2.2 k hal; rw [this]; simp; split <;> omega
              rw [hf] at c0 hrA hne
              have HF : Hid (vs[k] = .slice ao ls[k].length acap) := hf
              have HV : Hid (vs.length = g) := hvl
              have hb1 : (ivs ls[k]).length + 1 ≤ 100000000 := by rw [ivs_length]; omega
              clear hf hvl
              obtain ⟨wi, rfl⟩ : ∃ x : World, x = wr := ⟨_, rfl⟩
              have hsrc := Src.ofSlice (P := Ybaf.prog) (size := 1) (wi.alloc (.cells #[iv m] 3)) Ybaf.underlying27 ⟨wi.heap.size, 0, none⟩ 1 1 [iv m] rfl (news_alloc wi [iv m] 3) (by intro u hu; simp at hu; subst hu; rfl)
              go_wp2_with (at_builtin; refine wpList_append_rowK _ rfl (.tmp 36) (.tmp 38) 27 27 rfl w.heap.size 3 i3 (.int .i64 0) 1 8 Ybaf.underlying27 hi3 hz30 hz31 hz32 rfl (.slice ao ls[k].length acap) (ivs ls[k]).length (ivs ls[k]) rfl (hrA.alloc _) _ 1 [iv m] rfl hsrc (max_ok hb1) (bytes_ok hb1 (by decide)) (by have := gW.size; simp; omega) ?_; intro v1 w3 h1 h2 h3 h4 h5; obtain ⟨va, vc, rfl⟩ := h1.form; have s5 := (grown_alloc h2).cell c0 hne; have f5 : w3.frozen? ⟨w.heap.size, k, none⟩ = false := (by rw [(grown_alloc h2).frozen_far ⟨w.heap.size, k, none⟩ (World.block_lt_of_cell? _ _ c0) hne]; exact f0))
              go_roundw
              case rel =>
                refine ⟨m + 1, hml, by go_num, ?_⟩
                have gE := nest_step gW hav hal h1 (by rw [HF.out]; exact h2) (by rw [HF.out]; simpa using h3) (by rw [HF.out]; simpa using h4)
                refine ⟨_, _, by simpa using HV.out, nbOk_step HL.out hal hml (fun c => ?_), gE⟩
                by_cases h1 : c < k
                · have : ¬ c = k := by omega
                  simp [h1, this]
                · by_cases h2 : c = k
                  · subst h2
                    simp
                    split <;> split <;> omega
                  · have : ¬ c = k := by omega
                    simp [h1, h2, this]
              case measure => simp [intOf]; omega
          · have hmi : decide ((m : Int) < (g : Int)) = false := decide_eq_false (by omega)
            go_wp2
            go_roundw
            case rel =>
              refine ⟨k + 1, hlt, by go_num, ?_⟩
              obtain ⟨vs, ls, e1, e2, e3⟩ := gM
              refine ⟨vs, ls, e1, NbOk.congr e2.out (fun c hc => ?_), e3⟩
              have hme : m = g := by omega
              subst hme
              by_cases h1 : c < k
              · simp [h1, Nat.lt_succ_of_lt h1]
              · by_cases h2 : c = k
                · subst h2; simp; omega
                · have : ¬ c < k + 1 := by omega
                  simp [h1, h2, this]
            case measure => simp [intOf]; omega
      · have hki : decide ((k : Int) < (g : Int)) = false := decide_eq_false (by omega)
        go_wp2
        go_ret
        obtain ⟨vs, ls, e1, e2, e3⟩ := gR
        have hke : k = g := by omega
        subst hke
        refine ⟨w.heap.size, k, ls, by rw [← HG.out]; rfl, ?_, nest_natss e3 (by have := e2.out.1; omega), e3.below⟩
        rw [← HG.out]
        exact NbOk.congr e2.out (fun c hc => by simp [degN, hc, ← HG.out])

end Go.Proofs.YbulkaxksFmt
