/-
  The closure that takes a label down.
-/
import Derived.Test.YbulkaxhmFmtReg
import Derived.Deep.RegionHeld3
set_option linter.unusedVariables false
set_option linter.unusedSimpArgs false
namespace Go.Proofs.YbulkaxhmFmt
open Go.RowKit

set_option maxHeartbeats 400000 in
theorem label_any (B mb pb tb s t : Nat) (txt : ByteArray) (r : Bool) (qv ov lv : Value) (nq : Nat) (qxs : List Value) (no : Nat) (oxs lxs : List Value) (w : World)
    (hG : Own w B (LM mb r qv ov lv nq qxs no oxs lxs)) (hB : B ≤ w.heap.size) (hp : w.cell? ⟨pb, 0, none⟩ = some (.pointer (some ⟨mb, 0, none⟩))) (hpS : Safe (LM mb r qv ov lv nq qxs no oxs lxs) ⟨pb, 0, none⟩)
    (ht : w.cell? ⟨tb, 0, none⟩ = some (.string txt)) (htS : Safe (LM mb r qv ov lv nq qxs no oxs lxs) ⟨tb, 0, none⟩) (hst : s ≤ t) (htt : t ≤ txt.size) (hts : txt.size ≤ 1000000000) (hl : lxs.length + 1 ≤ 100000000) :
    Calls Ybaf.prog 20 #[.int .i64 (s : Int), .int .i64 (t : Int), .pointer (some ⟨pb, 0, none⟩), .pointer (some ⟨tb, 0, none⟩)] w fun e w' =>
      e = .returned (.tuple #[]) ∧ ∃ lv', Goes B w (LM mb r qv ov lv nq qxs no oxs lxs) w' (LM mb r qv ov lv' nq qxs no oxs (lxs ++ [.string (txt.extract s t)])) := by
  obtain ⟨i9, hi9, hz90, hz91, hz92⟩ := info_parts Ybaf.info9
  have hrow : RowM w B 9 1 lv lxs.length lxs := hG.get 3 rfl
  have hc3 := hG.box_cell 0 rfl 3 rfl
  have hf3 := hG.box_frozen 0 rfl 3 (by simp)
  obtain ⟨ao, cap, rfl⟩ := hrow.form
  have hpl := World.block_lt_of_cell? w _ hp
  have htl := World.block_lt_of_cell? w _ ht
  have hml := World.block_lt_of_cell? w _ hc3
  have n1 : ¬ pb = mb := safe_box (i := 0) rfl (by decide) hpS
  have n2 : ¬ tb = mb := safe_box (i := 0) rfl (by decide) htS
  have e1 : ∀ x, (w.alloc x).cell? ⟨mb, 3, none⟩ = some (.slice ao lxs.length cap) := fun x => (World.grownBy_alloc w x none).cell hc3 (by simp)
  have hS1 : (w.alloc (.cells #[.string (txt.extract s t)] 9)).drew.cell? ⟨pb, 0, none⟩ = some (.pointer (some ⟨mb, 0, none⟩)) ∧ (w.alloc (.cells #[.string (txt.extract s t)] 9)).drew.cell? ⟨tb, 0, none⟩ = some (.string txt) ∧ (w.alloc (.cells #[.string (txt.extract s t)] 9)).drew.cell? ⟨mb, 3, none⟩ = some (.slice ao lxs.length cap) :=
    have g := World.grownBy_alloc w (.cells #[.string (txt.extract s t)] 9) none
    ⟨g.cell hp (by simp), g.cell ht (by simp), g.cell hc3 (by simp)⟩
  have hrow1 : RowM (w.alloc (.cells #[.string (txt.extract s t)] 9)).drew B 9 1 (.slice ao lxs.length cap) lxs.length lxs := hrow.alloc _
  have hsrc := Src.ofSlice (P := Ybaf.prog) (size := 1) (w.alloc (.cells #[.string (txt.extract s t)] 9)).drew Ybaf.underlying28 ⟨w.heap.size, 0, none⟩ 1 1 [.string (txt.extract s t)] rfl (news_alloc w [.string (txt.extract s t)] 9) (by intro u hu; simp at hu; subst hu; rfl)
  have hB1 : B ≤ (w.alloc (.cells #[.string (txt.extract s t)] 9)).drew.heap.size := by show B ≤ (w.alloc _).heap.size; simp; omega
  have hrn : some mb ≠ (Value.slice ao lxs.length cap).ownBlock := by
    rcases hG.apart 0 3 (by simp [LM]) (by simp [LM]) (by omega) with h | h
    · simp [LM, box, Value.ownBlock] at h
    · exact h
  have kp5 : ∀ w5, (w.alloc (.cells #[.string (txt.extract s t)] 9)).drew.grownBy w5 (Value.slice ao lxs.length cap).ownBlock → KeptUpTo (w.alloc (.cells #[.string (txt.extract s t)] 9)).drew w5 (Value.slice ao lxs.length cap).ownBlock (lxs.length * 1) → ∀ a v, (w.alloc (.cells #[.string (txt.extract s t)] 9)).drew.cell? a = some v → Safe (LM mb r qv ov (.slice ao lxs.length cap) nq qxs no oxs lxs) a → w5.cell? a = some v := by
    intro w5 g1 g2 a v g3 g4
    rw [g2 a (World.block_lt_of_cell? _ a g3) (fun e => by have := (g4 3 (by simp [LM]) e).2.1; simpa [LM, rowOf] using this)]
    exact g3
  go_enter Ybaf.func20, Ybaf.ntmps20
  go_wp2_with fail
  refine wp_region_noPanic ?_
  refine wp_region_till (by kernel_rfl) (fun w' => w'.cell? ⟨pb, 0, none⟩ = some (.pointer (some ⟨mb, 0, none⟩)) ∧ w'.cell? ⟨tb, 0, none⟩ = some (.string txt) ∧ w'.cell? ⟨mb, 3, none⟩ = some (.slice ao lxs.length cap)) (fun _ => True) [11, 12, 13] 14 rfl ?_
  have hS : w.drew.cell? ⟨pb, 0, none⟩ = some (.pointer (some ⟨mb, 0, none⟩)) ∧ w.drew.cell? ⟨tb, 0, none⟩ = some (.string txt) ∧ w.drew.cell? ⟨mb, 3, none⟩ = some (.slice ao lxs.length cap) := ⟨hp, ht, hc3⟩
  refine till_take 0 (some 6) (v := ?v0) rfl rfl (by kernel_rfl) (by kernel_rfl) (by kernel_rfl) (by kernel_rfl) (fun _ _ _ h => h) (Or.inl ⟨by rfl, ?y0⟩) hS ?r0
  case y0 => intro w' ⟨s1, s2, s3⟩; go_simp; all_goals with_reducible rfl
  simp only [Act.put, List.setIfInBounds_toArray, List.set_cons_zero, List.set_cons_succ]
  refine till_take 1 (some 7) (v := ?v1) rfl rfl (by kernel_rfl) (by kernel_rfl) (by kernel_rfl) (by kernel_rfl) (fun _ _ _ h => h) (Or.inl ⟨by rfl, ?y1⟩) hS ?r1
  case y1 => intro w' ⟨s1, s2, s3⟩; go_simp; all_goals with_reducible rfl
  simp only [Act.put, List.setIfInBounds_toArray, List.set_cons_zero, List.set_cons_succ]
  refine till_take 2 (some 8) (v := ?v2) rfl rfl (by kernel_rfl) (by kernel_rfl) (by kernel_rfl) (by kernel_rfl) (fun _ _ _ h => h) (Or.inl ⟨by rfl, ?y2⟩) hS ?r2
  case y2 => intro w' ⟨s1, s2, s3⟩; go_simp; all_goals with_reducible rfl
  simp only [Act.put, List.setIfInBounds_toArray, List.set_cons_zero, List.set_cons_succ]
  refine till_take 3 (some 9) (v := ?v3) rfl rfl (by kernel_rfl) (by kernel_rfl) (by kernel_rfl) (by kernel_rfl) (fun _ _ _ h => h) (Or.inl ⟨by rfl, ?y3⟩) hS ?r3
  case y3 => intro w' ⟨s1, s2, s3⟩; go_simp; all_goals with_reducible rfl
  simp only [Act.put, List.setIfInBounds_toArray, List.set_cons_zero, List.set_cons_succ]
  refine till_take 4 (some 10) (v := ?v4) rfl rfl (by kernel_rfl) (by kernel_rfl) (by kernel_rfl) (by kernel_rfl) (fun _ _ _ h => h) (Or.inl ⟨by rfl, ?y4⟩) hS ?r4
  case y4 => intro w' ⟨s1, s2, s3⟩; go_simp; all_goals with_reducible rfl
  simp only [Act.put, List.setIfInBounds_toArray, List.set_cons_zero, List.set_cons_succ]
  refine till_take 5 (some 11) (v := ?v5) rfl rfl (by kernel_rfl) (by kernel_rfl) (by kernel_rfl) (by kernel_rfl) (fun _ _ _ h => h) (Or.inl ⟨by rfl, ?y5⟩) hS ?r5
  case y5 => intro w' ⟨s1, s2, s3⟩; go_simp; all_goals with_reducible rfl
  simp only [Act.put, List.setIfInBounds_toArray, List.set_cons_zero, List.set_cons_succ]
  refine till_take 6 (some 12) (v := ?v6) rfl rfl (by kernel_rfl) (by kernel_rfl) (by kernel_rfl) (by kernel_rfl) (fun _ _ _ h => h) (Or.inl ⟨by rfl, ?y6⟩) hS ?r6
  case y6 => intro w' ⟨s1, s2, s3⟩; go_simp; all_goals with_reducible rfl
  simp only [Act.put, List.setIfInBounds_toArray, List.set_cons_zero, List.set_cons_succ]
  refine till_take 7 (some 13) (v := ?v7) rfl rfl (by kernel_rfl) (by kernel_rfl) (by kernel_rfl) (by kernel_rfl) (fun _ _ _ h => h) (Or.inl ⟨by rfl, ?y7⟩) hS ?r7
  case y7 => intro w' ⟨s1, s2, s3⟩; go_simp; all_goals with_reducible rfl
  simp only [Act.put, List.setIfInBounds_toArray, List.set_cons_zero, List.set_cons_succ]
  refine till_take 8 (some 14) (v := ?v8) rfl rfl (by kernel_rfl) (by kernel_rfl) (by kernel_rfl) (by kernel_rfl) (fun _ _ _ h => h) (Or.inl ⟨by rfl, ?y8⟩) hS ?r8
  case y8 => intro w' ⟨s1, s2, s3⟩; go_simp; all_goals with_reducible rfl
  simp only [Act.put, List.setIfInBounds_toArray, List.set_cons_zero, List.set_cons_succ]
  refine till_one (i := 9) (by kernel_rfl) rfl rfl fun K hK => ?_
  go_simp
  refine hK _ _ (.inr fun _ => hS1) id ?_
  clear hK K
  refine till_one (i := 10) (by kernel_rfl) rfl rfl fun K hK => ?_
  refine wp_append_rowK _ rfl (.tmp 10) (.tmp 15) 28 28 rfl B 9 i9 (.string ⟨#[]⟩) 1 16 Ybaf.underlying28 hi9 hz90 hz91 hz92 rfl (.slice ao lxs.length cap) lxs.length lxs rfl hrow1 _ 1 [.string (txt.extract s t)] rfl hsrc (max_ok hl) (bytes_ok hl (by decide)) hB1 ?_
  intro v' w5 h1 h2 h3 h4 h5
  obtain ⟨ao', cap', rfl⟩ := h1.form
  have hS5 : w5.cell? ⟨pb, 0, none⟩ = some (.pointer (some ⟨mb, 0, none⟩)) ∧ w5.cell? ⟨tb, 0, none⟩ = some (.string txt) ∧ w5.cell? ⟨mb, 3, none⟩ = some (.slice ao lxs.length cap) := ⟨kp5 _ h2 h4 _ _ hS1.1 hpS, kp5 _ h2 h4 _ _ hS1.2.1 htS, h2.cell hS1.2.2 hrn⟩
  have hf5 : w5.frozen? ⟨mb, 3, none⟩ = false := by rw [h2.frozen_far ⟨mb, 3, none⟩ (by simp; omega) hrn]; exact (World.frozen?_of_block ((World.grownBy_alloc w _ none).block mb hml (by simp))).trans hf3
  have gE : Goes B w (LM mb r qv ov (.slice ao lxs.length cap) nq qxs no oxs lxs) (w5.setCell ⟨mb, 3, none⟩ (.slice ao' (lxs.length + 1) cap')) (LM mb r qv ov (.slice ao' (lxs.length + 1) cap') nq qxs no oxs (lxs ++ [.string (txt.extract s t)])) :=
    ((((Goes.refl hG hB).alloc _).drew).pushS 3 rfl rfl h1 h2 h3 (by simpa using h4)).setBox 0 rfl (by decide) 3 (by simp) _
  refine hK _ _ (.inr fun _ => hS5) id ?_
  clear hK K
  simp only [Act.put, List.setIfInBounds_toArray, List.set_cons_zero, List.set_cons_succ]
  refine till_take0 11 (some 17) (v := ?v11) rfl rfl (by kernel_rfl) (by kernel_rfl) (by kernel_rfl) (fun _ _ _ h => h) (Or.inl ⟨by rfl, ?y11⟩) trivial ?r11
  case y11 => intro w' _; go_simp; all_goals with_reducible rfl
  simp only [Act.put, List.setIfInBounds_toArray, List.set_cons_zero, List.set_cons_succ]
  refine till_take0 12 (some 18) (v := ?v12) rfl rfl (by kernel_rfl) (by kernel_rfl) (by kernel_rfl) (fun _ _ _ h => h) (Or.inl ⟨by rfl, ?y12⟩) trivial ?r12
  case y12 => intro w' _; go_simp; all_goals with_reducible rfl
  simp only [Act.put, List.setIfInBounds_toArray, List.set_cons_zero, List.set_cons_succ]
  refine till_one (i := 13) (by kernel_rfl) rfl rfl fun K hK => ?_
  obtain ⟨f1, f2, f3⟩ := hS5
  go_simp
  refine hK _ _ (.inl (by decide)) id ?_
  clear hK K
  refine till_done (by kernel_rfl) ?_ _
  refine NoPanic.normal ?_
  go_wp2_with fail
  go_end0
  exact ⟨rfl, _, gE⟩

end Go.Proofs.YbulkaxhmFmt
