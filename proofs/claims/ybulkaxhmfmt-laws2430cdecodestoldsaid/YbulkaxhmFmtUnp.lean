/-
  Unpack over a well-formed message, or a first part of one.
-/
import Derived.Test.YbulkaxhmFmtUnp2
set_option linter.unusedVariables false
set_option linter.unusedSimpArgs false
namespace Go.Proofs.YbulkaxhmFmt
open Go.Extern.Stop Go.Stop Go.Extern Go.RowKit

set_option maxRecDepth 100000 in
set_option maxHeartbeats 1000000 in
theorem unpack_any (F : Interp) (B mb mg n cap : Nat) (fl : UInt8) (qs : List MQ) (rs : List RRec) (no nopt : Nat) (ps : List (Nat × List UInt8)) (r0 : Bool) (qv0 ov0 lv0 : Value) (nq0 : Nat) (qxs0 : List Value) (no0 : Nat) (oxs0 lxs0 : List Value) (w : World)
    (hF : F.answers w.tape) (hG : Own w B (LM mb r0 qv0 ov0 lv0 nq0 qxs0 no0 oxs0 lxs0)) (hB : B ≤ w.heap.size) (hmg : mg < B) (hW : Hid (WF qs rs no nopt ps))
    (hM : Hid (BytesAt w mg 0 (MB fl qs rs no nopt))) (hn : n ≤ 200000) (hnM : n ≤ (MB fl qs rs no nopt).length) (hT : (MB fl qs rs no nopt).length ≤ 200000) (hcap : n ≤ cap) (hcm : cap ≤ 9223372036854775807) :
    Calls Ybaf.prog 12 #[.pointer (some ⟨mb, 0, none⟩), .slice (some ⟨mg, 0, none⟩) n cap] w (Unp B mb mg n fl qs rs no nopt ps w) := by
  have hq256 := hW.out.hq
  have hno := hW.out.hno
  have hnopt := hW.out.hnopt
  obtain ⟨hH1, ⟨hH4, hH5⟩, ⟨hH6, hH7⟩, ⟨hH8, hH9⟩, hHa, hHb⟩ := hdr_cells hM.out (by omega) (by omega) (by omega)
  by_cases h12 : n < 12
  · go_enter Ybaf.func12, Ybaf.ntmps12
    go_wp2_with (go_at_call 14; refine (errorsNew_any _ _).mono ?_; rintro e w1 ⟨rfl, rfl⟩)
    go_ret
    have g0 := (Goes.refl hG hB).alloc (.cells #[.pointer (some ⟨mb, 0, none⟩)] 51)
    exact ⟨g0.below.alloc g0.size _, by have := g0.size; simp at this ⊢; omega, .inl ⟨_, _, rfl, .inl (by simp [MB, hdr_length]; omega)⟩⟩
  · have h12' : (12 : Int) ≤ (n : Int) := by omega
    have gA := (Goes.refl hG hB).alloc (.cells #[.pointer (some ⟨mb, 0, none⟩)] 51)
    have hpS := safe_new hG 0
    have hpc : (w.alloc (.cells #[.pointer (some ⟨mb, 0, none⟩)] 51)).cell? ⟨w.heap.size, 0, none⟩ = some (.pointer (some ⟨mb, 0, none⟩)) := by simp
    obtain ⟨w1, hw1⟩ : ∃ W, W = w.alloc (.cells #[.pointer (some ⟨mb, 0, none⟩)] 51) := ⟨_, rfl⟩
    obtain ⟨pb, hpb⟩ : ∃ p, p = w.heap.size := ⟨_, rfl⟩
    go_enter Ybaf.func12, Ybaf.ntmps12
    go_wp2_with fail
    rw [← hw1, ← hpb]
    rw [← hw1] at gA hpc
    rw [← hpb] at hpS hpc
    have nq1 : ∀ k, qv0.ownBlock = some k → k < pb := fun k h => by rw [hpb]; exact (RowM.lt (hG.get 1 rfl) k h).2
    have no1 : ∀ k, ov0.ownBlock = some k → k < pb := fun k h => by rw [hpb]; exact (RowM.lt (hG.get 2 rfl) k h).2
    have nl1 : ∀ k, lv0.ownBlock = some k → k < pb := fun k h => by rw [hpb]; exact (RowM.lt (hG.get 3 rfl) k h).2
    have hpbB : B ≤ pb := by omega
    clear hw1 hpb
    have hb2 : w1.cell? ⟨mg, 2, none⟩ = some (.int .u8 (fl.toNat : Int)) := (gA.below.cell hmg).trans hH1
    have hc0 := gA.own.box_cell 0 rfl 0 rfl
    have hf0 := gA.own.box_frozen 0 rfl 0 (by simp)
    have hn2 : (2 : Int) < (n : Int) := by omega
    refine wp_region_noPanic ?_
    refine wp_region_till (by kernel_rfl) (fun _ => True) (fun w' => w'.cell? ⟨pb, 0, none⟩ = some (.pointer (some ⟨mb, 0, none⟩)) ∧ w'.cell? ⟨mg, 2, none⟩ = some (.int .u8 (fl.toNat : Int))) [8] 9 rfl ?_
    have hS : w1.drew.cell? ⟨pb, 0, none⟩ = some (.pointer (some ⟨mb, 0, none⟩)) ∧ w1.drew.cell? ⟨mg, 2, none⟩ = some (.int .u8 (fl.toNat : Int)) := ⟨hpc, hb2⟩
    have hmm : mg ≠ mb := fun h => by have := (RowM.lt (gA.own.get 0 rfl) mb rfl).1; omega
    have hpm : pb ≠ mb := safe_box (i := 0) rfl (by decide) hpS
    have hSa : (w1.setCell ⟨mb, 0, none⟩ (.bool (bits BinOp.and IntKind.u8 (fl.toNat : Int) 128 != 0))).drew.cell? ⟨pb, 0, none⟩ = some (.pointer (some ⟨mb, 0, none⟩)) ∧ (w1.setCell ⟨mb, 0, none⟩ (.bool (bits BinOp.and IntKind.u8 (fl.toNat : Int) 128 != 0))).drew.cell? ⟨mg, 2, none⟩ = some (.int .u8 (fl.toNat : Int)) :=
      ⟨(grown_setCell w1 mb 0 _).cell hpc (by simpa using hpm), (grown_setCell w1 mb 0 _).cell hb2 (by simpa using hmm)⟩
    refine till_take0 0 (some 25) (v := ?va0) rfl rfl (by kernel_rfl) (by kernel_rfl) (by kernel_rfl) (fun _ _ _ h => h) (Or.inl ⟨by rfl, ?ya0⟩) hS ?ra0
    case ya0 => intro w' ⟨s1, s2⟩; go_simp; all_goals with_reducible rfl
    simp only [Act.put, List.setIfInBounds_toArray, List.set_cons_zero, List.set_cons_succ]
    refine till_take0 1 (some 26) (v := ?va1) rfl rfl (by kernel_rfl) (by kernel_rfl) (by kernel_rfl) (fun _ _ _ h => h) (Or.inl ⟨by rfl, ?ya1⟩) hS ?ra1
    case ya1 => intro w' ⟨s1, s2⟩; go_simp; all_goals with_reducible rfl
    simp only [Act.put, List.setIfInBounds_toArray, List.set_cons_zero, List.set_cons_succ]
    refine till_take0 2 (some 27) (v := ?va2) rfl rfl (by kernel_rfl) (by kernel_rfl) (by kernel_rfl) (fun _ _ _ h => h) (Or.inl ⟨by rfl, ?ya2⟩) hS ?ra2
    case ya2 => intro w' ⟨s1, s2⟩; go_simp; all_goals with_reducible rfl
    simp only [Act.put, List.setIfInBounds_toArray, List.set_cons_zero, List.set_cons_succ]
    refine till_take0 3 (some 28) (v := ?va3) rfl rfl (by kernel_rfl) (by kernel_rfl) (by kernel_rfl) (fun _ _ _ h => h) (Or.inl ⟨by rfl, ?ya3⟩) hS ?ra3
    case ya3 => intro w' ⟨s1, s2⟩; go_simp; all_goals with_reducible rfl
    simp only [Act.put, List.setIfInBounds_toArray, List.set_cons_zero, List.set_cons_succ]
    refine till_take0 4 (some 29) (v := ?va4) rfl rfl (by kernel_rfl) (by kernel_rfl) (by kernel_rfl) (fun _ _ _ h => h) (Or.inl ⟨by rfl, ?ya4⟩) hS ?ra4
    case ya4 => intro w' ⟨s1, s2⟩; go_simp; all_goals with_reducible rfl
    simp only [Act.put, List.setIfInBounds_toArray, List.set_cons_zero, List.set_cons_succ]
    refine till_take0 5 (some 30) (v := ?va5) rfl rfl (by kernel_rfl) (by kernel_rfl) (by kernel_rfl) (fun _ _ _ h => h) (Or.inl ⟨by rfl, ?ya5⟩) hS ?ra5
    case ya5 => intro w' ⟨s1, s2⟩; go_simp; all_goals with_reducible rfl
    simp only [Act.put, List.setIfInBounds_toArray, List.set_cons_zero, List.set_cons_succ]
    refine till_take0 6 (some 31) (v := ?va6) rfl rfl (by kernel_rfl) (by kernel_rfl) (by kernel_rfl) (fun _ _ _ h => h) (Or.inl ⟨by rfl, ?ya6⟩) hS ?ra6
    case ya6 => intro w' ⟨s1, s2⟩; go_simp; all_goals with_reducible rfl
    simp only [Act.put, List.setIfInBounds_toArray, List.set_cons_zero, List.set_cons_succ]
    refine till_take0 7 (some 32) (v := ?va7) rfl rfl (by kernel_rfl) (by kernel_rfl) (by kernel_rfl) (fun _ _ _ h => h) (Or.inl ⟨by rfl, ?ya7⟩) hS ?ra7
    case ya7 => intro w' ⟨s1, s2⟩; go_simp; all_goals with_reducible rfl
    simp only [Act.put, List.setIfInBounds_toArray, List.set_cons_zero, List.set_cons_succ]
    refine till_one (i := 8) (by kernel_rfl) rfl rfl fun K hK => ?_
    go_simp
    refine hK _ _ (.inl (by decide)) (fun _ => hSa) ?_
    clear hK K
    refine till_done (by kernel_rfl) ?_ _
    refine NoPanic.normal ?_
    have gAB : Goes B w1 (LM mb r0 qv0 ov0 lv0 nq0 qxs0 no0 oxs0 lxs0) (w1.setCell ⟨mb, 0, none⟩ (.bool (bits BinOp.and IntKind.u8 (fl.toNat : Int) 128 != 0))).drew (LM mb (qrBit fl) qv0 ov0 lv0 nq0 qxs0 no0 oxs0 lxs0) := ((Goes.refl gA.own gA.size).setBox 0 rfl (by decide) 0 (by simp) (.bool (qrBit fl))).drew
    obtain ⟨w2, hw2⟩ : ∃ W, W = (w1.setCell ⟨mb, 0, none⟩ (.bool (bits BinOp.and IntKind.u8 (fl.toNat : Int) 128 != 0))).drew := ⟨_, rfl⟩
    rw [← hw2] at gAB ⊢
    obtain ⟨hpc2, hpS2⟩ := gAB.safe _ _ hpc hpS
    have gB := gA.trans gAB
    clear hw2 gAB gA hpc hpS hb2 hc0 hf0 hS hSa
    have hrq : RowM w2 B 73 3 qv0 nq0 qxs0 := gB.own.get 1 rfl
    have hro : RowM w2 B 78 2 ov0 no0 oxs0 := gB.own.get 2 rfl
    have hrl : RowM w2 B 9 1 lv0 lxs0.length lxs0 := gB.own.get 3 rfl
    obtain ⟨qa, qc, rfl, hqz, hqn, hqo⟩ := hrq.zero
    obtain ⟨oa, oc, rfl, hoz, hon, hoo⟩ := hro.zero
    obtain ⟨la, lc, rfl, hlz, hln, hlo⟩ := hrl.zero
    have hc1 := gB.own.box_cell 0 rfl 1 rfl
    have hc2 := gB.own.box_cell 0 rfl 2 rfl
    have hc3 := gB.own.box_cell 0 rfl 3 rfl
    go_wp2_with fail
    have f1 := gB.own.box_frozen 0 rfl 1 (by simp)
    have f2 := gB.own.box_frozen 0 rfl 2 (by simp)
    have f3 := gB.own.box_frozen 0 rfl 3 (by simp)
    have kp : ∀ (W : World) (j : Nat) (u : Value), W.cell? ⟨pb, 0, none⟩ = some (.pointer (some ⟨mb, 0, none⟩)) → (W.setCell ⟨mb, j, none⟩ u).cell? ⟨pb, 0, none⟩ = some (.pointer (some ⟨mb, 0, none⟩)) := fun W j u h => (grown_setCell W mb j u).cell h (by simpa using hpm)
    refine wp_region_noPanic ?_
    refine wp_region_till (by kernel_rfl) (fun w' => w'.cell? ⟨mb, 1, none⟩ = some (.slice qa nq0 qc) ∧ w'.cell? ⟨mb, 2, none⟩ = some (.slice oa no0 oc) ∧ w'.cell? ⟨mb, 3, none⟩ = some (.slice la lxs0.length lc)) (fun w' => w'.cell? ⟨pb, 0, none⟩ = some (.pointer (some ⟨mb, 0, none⟩))) [20, 23, 26] 27 rfl ?_
    have hS : w2.drew.cell? ⟨mb, 1, none⟩ = some (.slice qa nq0 qc) ∧ w2.drew.cell? ⟨mb, 2, none⟩ = some (.slice oa no0 oc) ∧ w2.drew.cell? ⟨mb, 3, none⟩ = some (.slice la lxs0.length lc) := ⟨hc1, hc2, hc3⟩
    have hS0 : w2.drew.cell? ⟨pb, 0, none⟩ = some (.pointer (some ⟨mb, 0, none⟩)) := hpc2
    refine till_take0 0 (some 33) (v := ?vb0) rfl rfl (by kernel_rfl) (by kernel_rfl) (by kernel_rfl) (fun _ _ _ h => h) (Or.inl ⟨by rfl, ?yb0⟩) hS0 ?rb0
    case yb0 => intro w' s0; go_simp; all_goals with_reducible rfl
    simp only [Act.put, List.setIfInBounds_toArray, List.set_cons_zero, List.set_cons_succ]
    refine till_take0 1 (some 34) (v := ?vb1) rfl rfl (by kernel_rfl) (by kernel_rfl) (by kernel_rfl) (fun _ _ _ h => h) (Or.inl ⟨by rfl, ?yb1⟩) hS0 ?rb1
    case yb1 => intro w' s0; go_simp; all_goals with_reducible rfl
    simp only [Act.put, List.setIfInBounds_toArray, List.set_cons_zero, List.set_cons_succ]
    refine till_take0 2 (some 35) (v := ?vb2) rfl rfl (by kernel_rfl) (by kernel_rfl) (by kernel_rfl) (fun _ _ _ h => h) (Or.inl ⟨by rfl, ?yb2⟩) hS0 ?rb2
    case yb2 => intro w' s0; go_simp; all_goals with_reducible rfl
    simp only [Act.put, List.setIfInBounds_toArray, List.set_cons_zero, List.set_cons_succ]
    refine till_take0 3 (some 36) (v := ?vb3) rfl rfl (by kernel_rfl) (by kernel_rfl) (by kernel_rfl) (fun _ _ _ h => h) (Or.inl ⟨by rfl, ?yb3⟩) hS0 ?rb3
    case yb3 => intro w' s0; go_simp; all_goals with_reducible rfl
    simp only [Act.put, List.setIfInBounds_toArray, List.set_cons_zero, List.set_cons_succ]
    refine till_take0 4 (some 37) (v := ?vb4) rfl rfl (by kernel_rfl) (by kernel_rfl) (by kernel_rfl) (fun _ _ _ h => h) (Or.inl ⟨by rfl, ?yb4⟩) hS0 ?rb4
    case yb4 => intro w' s0; go_simp; all_goals with_reducible rfl
    simp only [Act.put, List.setIfInBounds_toArray, List.set_cons_zero, List.set_cons_succ]
    refine till_take0 5 (some 38) (v := ?vb5) rfl rfl (by kernel_rfl) (by kernel_rfl) (by kernel_rfl) (fun _ _ _ h => h) (Or.inl ⟨by rfl, ?yb5⟩) hS0 ?rb5
    case yb5 => intro w' s0; go_simp; all_goals with_reducible rfl
    simp only [Act.put, List.setIfInBounds_toArray, List.set_cons_zero, List.set_cons_succ]
    refine till_take 6 (some 39) (v := ?vb6) rfl rfl (by kernel_rfl) (by kernel_rfl) (by kernel_rfl) (by kernel_rfl) (fun _ _ _ h => h) (Or.inl ⟨by rfl, ?yb6⟩) hS ?rb6
    case yb6 => intro w' ⟨s1, s2, s3⟩; go_simp; all_goals with_reducible rfl
    simp only [Act.put, List.setIfInBounds_toArray, List.set_cons_zero, List.set_cons_succ]
    refine till_take0 7 (some 40) (v := ?vb7) rfl rfl (by kernel_rfl) (by kernel_rfl) (by kernel_rfl) (fun _ _ _ h => h) (Or.inl ⟨by rfl, ?yb7⟩) hS0 ?rb7
    case yb7 => intro w' s0; go_simp; all_goals with_reducible rfl
    simp only [Act.put, List.setIfInBounds_toArray, List.set_cons_zero, List.set_cons_succ]
    refine till_take0 8 (some 41) (v := ?vb8) rfl rfl (by kernel_rfl) (by kernel_rfl) (by kernel_rfl) (fun _ _ _ h => h) (Or.inl ⟨by rfl, ?yb8⟩) hS0 ?rb8
    case yb8 => intro w' s0; go_simp; all_goals with_reducible rfl
    simp only [Act.put, List.setIfInBounds_toArray, List.set_cons_zero, List.set_cons_succ]
    refine till_take0 9 (some 42) (v := ?vb9) rfl rfl (by kernel_rfl) (by kernel_rfl) (by kernel_rfl) (fun _ _ _ h => h) (Or.inl ⟨by rfl, ?yb9⟩) hS0 ?rb9
    case yb9 => intro w' s0; go_simp; all_goals with_reducible rfl
    simp only [Act.put, List.setIfInBounds_toArray, List.set_cons_zero, List.set_cons_succ]
    refine till_take0 10 (some 43) (v := ?vb10) rfl rfl (by kernel_rfl) (by kernel_rfl) (by kernel_rfl) (fun _ _ _ h => h) (Or.inl ⟨by rfl, ?yb10⟩) hS0 ?rb10
    case yb10 => intro w' s0; go_simp; all_goals with_reducible rfl
    simp only [Act.put, List.setIfInBounds_toArray, List.set_cons_zero, List.set_cons_succ]
    refine till_take 11 (some 44) (v := ?vb11) rfl rfl (by kernel_rfl) (by kernel_rfl) (by kernel_rfl) (by kernel_rfl) (fun _ _ _ h => h) (Or.inl ⟨by rfl, ?yb11⟩) hS ?rb11
    case yb11 => intro w' ⟨s1, s2, s3⟩; go_simp; all_goals with_reducible rfl
    simp only [Act.put, List.setIfInBounds_toArray, List.set_cons_zero, List.set_cons_succ]
    refine till_take0 12 (some 45) (v := ?vb12) rfl rfl (by kernel_rfl) (by kernel_rfl) (by kernel_rfl) (fun _ _ _ h => h) (Or.inl ⟨by rfl, ?yb12⟩) hS0 ?rb12
    case yb12 => intro w' s0; go_simp; all_goals with_reducible rfl
    simp only [Act.put, List.setIfInBounds_toArray, List.set_cons_zero, List.set_cons_succ]
    refine till_take0 13 (some 46) (v := ?vb13) rfl rfl (by kernel_rfl) (by kernel_rfl) (by kernel_rfl) (fun _ _ _ h => h) (Or.inl ⟨by rfl, ?yb13⟩) hS0 ?rb13
    case yb13 => intro w' s0; go_simp; all_goals with_reducible rfl
    simp only [Act.put, List.setIfInBounds_toArray, List.set_cons_zero, List.set_cons_succ]
    refine till_take0 14 (some 47) (v := ?vb14) rfl rfl (by kernel_rfl) (by kernel_rfl) (by kernel_rfl) (fun _ _ _ h => h) (Or.inl ⟨by rfl, ?yb14⟩) hS0 ?rb14
    case yb14 => intro w' s0; go_simp; all_goals with_reducible rfl
    simp only [Act.put, List.setIfInBounds_toArray, List.set_cons_zero, List.set_cons_succ]
    refine till_take0 15 (some 48) (v := ?vb15) rfl rfl (by kernel_rfl) (by kernel_rfl) (by kernel_rfl) (fun _ _ _ h => h) (Or.inl ⟨by rfl, ?yb15⟩) hS0 ?rb15
    case yb15 => intro w' s0; go_simp; all_goals with_reducible rfl
    simp only [Act.put, List.setIfInBounds_toArray, List.set_cons_zero, List.set_cons_succ]
    refine till_take 16 (some 49) (v := ?vb16) rfl rfl (by kernel_rfl) (by kernel_rfl) (by kernel_rfl) (by kernel_rfl) (fun _ _ _ h => h) (Or.inl ⟨by rfl, ?yb16⟩) hS ?rb16
    case yb16 => intro w' ⟨s1, s2, s3⟩; go_simp; all_goals with_reducible rfl
    simp only [Act.put, List.setIfInBounds_toArray, List.set_cons_zero, List.set_cons_succ]
    refine till_take0 17 (some 50) (v := ?vb17) rfl rfl (by kernel_rfl) (by kernel_rfl) (by kernel_rfl) (fun _ _ _ h => h) (Or.inl ⟨by rfl, ?yb17⟩) hS0 ?rb17
    case yb17 => intro w' s0; go_simp; all_goals with_reducible rfl
    simp only [Act.put, List.setIfInBounds_toArray, List.set_cons_zero, List.set_cons_succ]
    refine till_take0 18 (some 51) (v := ?vb18) rfl rfl (by kernel_rfl) (by kernel_rfl) (by kernel_rfl) (fun _ _ _ h => h) (Or.inl ⟨by rfl, ?yb18⟩) hS0 ?rb18
    case yb18 => intro w' s0; go_simp; all_goals with_reducible rfl
    simp only [Act.put, List.setIfInBounds_toArray, List.set_cons_zero, List.set_cons_succ]
    refine till_take0 19 (some 52) (v := ?vb19) rfl rfl (by kernel_rfl) (by kernel_rfl) (by kernel_rfl) (fun _ _ _ h => h) (Or.inl ⟨by rfl, ?yb19⟩) hS0 ?rb19
    case yb19 => intro w' s0; go_simp; all_goals with_reducible rfl
    simp only [Act.put, List.setIfInBounds_toArray, List.set_cons_zero, List.set_cons_succ]
    refine till_one (i := 20) (by kernel_rfl) rfl rfl fun K hK => ?_
    go_simp
    refine hK _ _ (.inl (by decide)) (kp _ _ _) ?_
    clear hK K
    refine till_take0 21 (some 53) (v := ?vb21) rfl rfl (by kernel_rfl) (by kernel_rfl) (by kernel_rfl) (fun _ _ _ h => h) (Or.inl ⟨by rfl, ?yb21⟩) (kp _ _ _ hpc2) ?rb21
    case yb21 => intro w' s0; go_simp; all_goals with_reducible rfl
    simp only [Act.put, List.setIfInBounds_toArray, List.set_cons_zero, List.set_cons_succ]
    refine till_take0 22 (some 54) (v := ?vb22) rfl rfl (by kernel_rfl) (by kernel_rfl) (by kernel_rfl) (fun _ _ _ h => h) (Or.inl ⟨by rfl, ?yb22⟩) (kp _ _ _ hpc2) ?rb22
    case yb22 => intro w' s0; go_simp; all_goals with_reducible rfl
    simp only [Act.put, List.setIfInBounds_toArray, List.set_cons_zero, List.set_cons_succ]
    refine till_one (i := 23) (by kernel_rfl) rfl rfl fun K hK => ?_
    go_simp
    refine hK _ _ (.inl (by decide)) (kp _ _ _) ?_
    clear hK K
    refine till_take0 24 (some 55) (v := ?vb24) rfl rfl (by kernel_rfl) (by kernel_rfl) (by kernel_rfl) (fun _ _ _ h => h) (Or.inl ⟨by rfl, ?yb24⟩) (kp _ _ _ (kp _ _ _ hpc2)) ?rb24
    case yb24 => intro w' s0; go_simp; all_goals with_reducible rfl
    simp only [Act.put, List.setIfInBounds_toArray, List.set_cons_zero, List.set_cons_succ]
    refine till_take0 25 (some 56) (v := ?vb25) rfl rfl (by kernel_rfl) (by kernel_rfl) (by kernel_rfl) (fun _ _ _ h => h) (Or.inl ⟨by rfl, ?yb25⟩) (kp _ _ _ (kp _ _ _ hpc2)) ?rb25
    case yb25 => intro w' s0; go_simp; all_goals with_reducible rfl
    simp only [Act.put, List.setIfInBounds_toArray, List.set_cons_zero, List.set_cons_succ]
    refine till_one (i := 26) (by kernel_rfl) rfl rfl fun K hK => ?_
    go_simp
    refine hK _ _ (.inl (by decide)) (kp _ _ _) ?_
    clear hK K
    refine till_done (by kernel_rfl) ?_ _
    refine NoPanic.normal ?_
    have hpc3 := kp _ 3 (.slice la 0 lc) (kp _ 2 (.slice oa 0 oc) (kp _ 1 (.slice qa 0 qc) hpc2))
    have gC := own_reset (Goes.refl gB.own gB.size)
    have bC : Below B w ((((w2.setCell ⟨mb, 1, none⟩ (.slice qa 0 qc)).setCell ⟨mb, 2, none⟩ (.slice oa 0 oc)).setCell ⟨mb, 3, none⟩ (.slice la 0 lc)).drew) :=
      ((((gB.setBox 0 rfl (by decide) 1 (by simp) (.slice qa 0 qc)).setBox 0 rfl (by decide) 2 (by simp) (.slice oa 0 oc)).setBox 0 rfl (by decide) 3 (by simp) (.slice la 0 lc)).drew).below
    have sC : B ≤ ((((w2.setCell ⟨mb, 1, none⟩ (.slice qa 0 qc)).setCell ⟨mb, 2, none⟩ (.slice oa 0 oc)).setCell ⟨mb, 3, none⟩ (.slice la 0 lc)).drew).heap.size := by show B ≤ (((w2.setCell _ _).setCell _ _).setCell _ _).heap.size; simp [World.setCell]; exact gB.size
    have hpS3 : Safe (LM mb (qrBit fl) (.slice qa 0 qc) (.slice oa 0 oc) (.slice la 0 lc) 0 [] 0 [] []) ⟨pb, 0, none⟩ :=
      safe_LM hpm (fun h => Nat.lt_irrefl _ (nq1 pb (hqo ▸ h))) (fun h => Nat.lt_irrefl _ (no1 pb (hoo ▸ h))) (fun h => Nat.lt_irrefl _ (nl1 pb (hlo ▸ h)))
    obtain ⟨w3, hw3⟩ : ∃ W, W = ((((w2.setCell ⟨mb, 1, none⟩ (.slice qa 0 qc)).setCell ⟨mb, 2, none⟩ (.slice oa 0 oc)).setCell ⟨mb, 3, none⟩ (.slice la 0 lc)).drew) := ⟨_, rfl⟩
    rw [← hw3] at gC bC sC ⊢
    have hpc3' : w3.cell? ⟨pb, 0, none⟩ = some (.pointer (some ⟨mb, 0, none⟩)) := by rw [hw3]; exact hpc3
    obtain ⟨qv, hqv⟩ : ∃ v, v = Value.slice qa 0 qc := ⟨_, rfl⟩
    obtain ⟨ov, hov⟩ : ∃ v, v = Value.slice oa 0 oc := ⟨_, rfl⟩
    obtain ⟨lv, hlv⟩ : ∃ v, v = Value.slice la 0 lc := ⟨_, rfl⟩
    rw [← hqv, ← hov, ← hlv] at gC hpS3
    clear hS hS0 kp hw3 hpc3 hpc2 hpS2 hqz hoz hlz hqo hoo hlo hqn hon hln hrq hro hrl hc1 hc2 hc3 f1 f2 f3 gB nq1 no1 nl1
    have hF3 : F.answers w3.tape := by rw [bC.tape]; exact hF
    have hc6 : (6 : Int) ≤ (cap : Int) := by omega
    have hc4 : ¬ cap = 4 := by omega
    have X4 := (bC.cell hmg (p := ⟨mg, 4, none⟩)).trans hH4
    have X5 := (bC.cell hmg (p := ⟨mg, 4 + 1, none⟩)).trans hH5
    go_wp2_with fail
    refine wp_region_noPanic ?_
    refine wp_region_till (by kernel_rfl) (fun _ => True) (fun _ => True) [] 6 rfl ?_
    refine till_take0 0 (some 57) (v := ?vc0) rfl rfl (by kernel_rfl) (by kernel_rfl) (by kernel_rfl) (fun _ _ _ h => h) (Or.inl ⟨by rfl, ?yc0⟩) trivial ?rc0
    case yc0 => intro w' _; go_simp; all_goals with_reducible rfl
    simp only [Act.put, List.setIfInBounds_toArray, List.set_cons_zero, List.set_cons_succ]
    refine till_take0 1 (some 58) (v := ?vc1) rfl rfl (by kernel_rfl) (by kernel_rfl) (by kernel_rfl) (fun _ _ _ h => h) (Or.inl ⟨by rfl, ?yc1⟩) trivial ?rc1
    case yc1 => intro w' _; go_simp; all_goals with_reducible rfl
    simp only [Act.put, List.setIfInBounds_toArray, List.set_cons_zero, List.set_cons_succ]
    refine till_take0 2 (some 59) (v := ?vc2) rfl rfl (by kernel_rfl) (by kernel_rfl) (by kernel_rfl) (fun _ _ _ h => h) (Or.inl ⟨by rfl, ?yc2⟩) trivial ?rc2
    case yc2 => intro w' _; go_simp; all_goals with_reducible rfl
    simp only [Act.put, List.setIfInBounds_toArray, List.set_cons_zero, List.set_cons_succ]
    refine till_one (i := 3) (by kernel_rfl) rfl rfl fun K hK => ?_
    go_simp
    refine (uint16_any mg 4 2 (cap - 4) _ _ w3.drew (by omega) X4 X5 (by omega) (by omega) (by omega) (by omega) (by decide)).mono ?_
    rintro e w4 ⟨rfl, nq4, hw4⟩
    have gw4 := grown_u16 w3 nq4
    rw [hw4] at gw4
    clear hw4
    refine hK _ _ (.inr id) id ?_
    clear hK K
    refine till_take0 4 (some 61) (v := ?vc4) rfl rfl (by kernel_rfl) (by kernel_rfl) (by kernel_rfl) (fun _ _ _ h => h) (Or.inl ⟨by rfl, ?yc4⟩) trivial ?rc4
    case yc4 => intro w' _; go_simp; all_goals with_reducible rfl
    simp only [Act.put, List.setIfInBounds_toArray, List.set_cons_zero, List.set_cons_succ]
    refine till_take0 5 (some 5) (v := ?vc5) rfl rfl (by kernel_rfl) (by kernel_rfl) (by kernel_rfl) (fun _ _ _ h => h) (Or.inl ⟨by rfl, ?yc5⟩) trivial ?rc5
    case yc5 => intro w' _; go_simp; all_goals with_reducible rfl
    simp only [Act.put, List.setIfInBounds_toArray, List.set_cons_zero, List.set_cons_succ]
    refine till_done (by kernel_rfl) ?_ _
    refine NoPanic.normal ?_
    have hq5 : IntKind.i64.wrap (256 * ((qs.length : Int) / 256) + (qs.length : Int) % 256) = qs.length := by rw [IntKind.wrap_i64]; omega
    rw [hq5]
    clear hq5 X4 X5 hc6 hc4
    go_wp2_with fail
    have t0 : True := trivial
    next =>
      go_loopw [6, 7] (fun s6 s7 wr => ∃ k : Nat, k ≤ 3 ∧ s6 = .int .i64 ((sumRR no nopt k : Nat) : Int) ∧ s7 = .int .i64 ((6 + 2 * k : Nat) : Int) ∧ w4.grownBy wr none) (fun _ s7 _ => 20 - (intOf s7).toNat)
      case atStart => exact ⟨0, by omega, rfl, rfl, World.grownBy.refl _ _⟩
      case round =>
        obtain ⟨k, hk3, rfl, rfl, gL⟩ := hrel
        by_cases hk : k < 3
        · have bL : Below B w wr := (bC.grown gw4 sC (fun _ h => by cases h)).grown gL (Nat.le_trans sC gw4.size) (fun _ h => by cases h)
          obtain ⟨x, ⟨hx1, hx2⟩, hsum, hxl⟩ := sum_step (w := wr) (mg := mg) (no := no) (nopt := nopt) hk ⟨(bL.cell hmg).trans hH6, (bL.cell hmg).trans hH7⟩ ⟨(bL.cell hmg).trans hH8, (bL.cell hmg).trans hH9⟩ ⟨(bL.cell hmg).trans hHa, (bL.cell hmg).trans hHb⟩
          have hsl := sum_le no nopt k
          obtain ⟨o, ho⟩ : ∃ o, o = 6 + 2 * k := ⟨_, rfl⟩
          obtain ⟨s, hs⟩ : ∃ s, s = sumRR no nopt k := ⟨_, rfl⟩
          rw [← ho] at hx1 hx2 ⊢
          rw [← hs] at hsum hsl ⊢
          have HO : Hid (o = 6 + 2 * k) := ho
          have HSM : Hid (sumRR no nopt (k + 1) = s + x) := hsum
          have ho12 : (o : Int) < 12 := by omega
          have hoc : (o : Int) ≤ (n : Int) := by omega
          have hoc2 : (n : Int) ≤ (cap : Int) := by omega
          have hone : ¬ cap = o := by omega
          have hwx : IntKind.i64.wrap (256 * ((x : Int) / 256) + (x : Int) % 256) = x := by rw [IntKind.wrap_i64]; omega
          have hws : IntKind.i64.wrap ((s : Int) + (x : Int)) = (s : Int) + x := by rw [IntKind.wrap_i64]; omega
          have hn2 : 2 ≤ n - o := by omega
          clear ho hs hsum
          go_wp2_with fail
          refine wp_region_noPanic ?_
          refine wp_region_till (by kernel_rfl) (fun _ => True) (fun _ => True) [] 9 rfl ?_
          refine till_take0 0 (some 66) (v := ?vd0) rfl rfl (by kernel_rfl) (by kernel_rfl) (by kernel_rfl) (fun _ _ _ h => h) (Or.inl ⟨by rfl, ?yd0⟩) trivial ?rd0
          case yd0 => intro w' _; go_simp; all_goals with_reducible rfl
          simp only [Act.put, List.setIfInBounds_toArray, List.set_cons_zero, List.set_cons_succ]
          refine till_take0 1 (some 67) (v := ?vd1) rfl rfl (by kernel_rfl) (by kernel_rfl) (by kernel_rfl) (fun _ _ _ h => h) (Or.inl ⟨by rfl, ?yd1⟩) trivial ?rd1
          case yd1 => intro w' _; go_simp; all_goals with_reducible rfl
          simp only [Act.put, List.setIfInBounds_toArray, List.set_cons_zero, List.set_cons_succ]
          refine till_take0 2 (some 68) (v := ?vd2) rfl rfl (by kernel_rfl) (by kernel_rfl) (by kernel_rfl) (fun _ _ _ h => h) (Or.inl ⟨by rfl, ?yd2⟩) trivial ?rd2
          case yd2 => intro w' _; go_simp; all_goals with_reducible rfl
          simp only [Act.put, List.setIfInBounds_toArray, List.set_cons_zero, List.set_cons_succ]
          refine till_take0 3 (some 69) (v := ?vd3) rfl rfl (by kernel_rfl) (by kernel_rfl) (by kernel_rfl) (fun _ _ _ h => h) (Or.inl ⟨by rfl, ?yd3⟩) trivial ?rd3
          case yd3 => intro w' _; go_simp; all_goals with_reducible rfl
          simp only [Act.put, List.setIfInBounds_toArray, List.set_cons_zero, List.set_cons_succ]
          refine till_take0 4 (some 70) (v := ?vd4) rfl rfl (by kernel_rfl) (by kernel_rfl) (by kernel_rfl) (fun _ _ _ h => h) (Or.inl ⟨by rfl, ?yd4⟩) trivial ?rd4
          case yd4 => intro w' _; go_simp; all_goals with_reducible rfl
          simp only [Act.put, List.setIfInBounds_toArray, List.set_cons_zero, List.set_cons_succ]
          refine till_one (i := 5) (by kernel_rfl) rfl rfl fun K hK => ?_
          go_simp
          refine (uint16_any mg o (n - o) (cap - o) _ _ wr.drew hn2 hx1 hx2 (by omega) (by omega) (by omega) (by omega) (by unfold maxLen; omega)).mono ?_
          rintro e w5 ⟨rfl, nq5, hw5⟩
          have gw5 := grown_u16 wr nq5
          rw [hw5] at gw5
          clear hw5
          refine hK _ _ (.inr id) id ?_
          clear hK K
          refine till_take0 6 (some 72) (v := ?vd6) rfl rfl (by kernel_rfl) (by kernel_rfl) (by kernel_rfl) (fun _ _ _ h => h) (Or.inl ⟨by rfl, ?yd6⟩) trivial ?rd6
          case yd6 => intro w' _; go_simp; all_goals with_reducible rfl
          simp only [Act.put, List.setIfInBounds_toArray, List.set_cons_zero, List.set_cons_succ]
          refine till_take0 7 (some 73) (v := ?vd7) rfl rfl (by kernel_rfl) (by kernel_rfl) (by kernel_rfl) (fun _ _ _ h => h) (Or.inl ⟨by rfl, ?yd7⟩) trivial ?rd7
          case yd7 => intro w' _; go_simp; all_goals with_reducible rfl
          simp only [Act.put, List.setIfInBounds_toArray, List.set_cons_zero, List.set_cons_succ]
          refine till_take0 8 (some 6) (v := ?vd8) rfl rfl (by kernel_rfl) (by kernel_rfl) (by kernel_rfl) (fun _ _ _ h => h) (Or.inl ⟨by rfl, ?yd8⟩) trivial ?rd8
          case yd8 => intro w' _; go_simp; all_goals with_reducible rfl
          simp only [Act.put, List.setIfInBounds_toArray, List.set_cons_zero, List.set_cons_succ]
          refine till_done (by kernel_rfl) ?_ _
          refine NoPanic.normal ?_
          go_wp2
          go_roundw
          case rel =>
            refine ⟨.int .i64 ((s : Int) + (x : Int)), .int .i64 ((o : Int) + 2), _, _, _, _, _, _, _, _, _, _, _, _, ⟨k + 1, by omega, by rw [HSM.out]; go_num, by have := HO.out; go_num, grown_trans2 gL gw5⟩, rfl⟩
          case measure => simp [intOf]; omega
        · have hk3' : k = 3 := by omega
          subst hk3'
          have e1 : sumRR no nopt 3 = no + nopt := by simp [sumRR]
          rw [e1]
          clear e1 hk hk3
          have gw := grown_trans2 gw4 gL
          have bW : Below B w wr := bC.grown gw sC (fun _ h => by cases h)
          have gG : Goes B w3 (LM mb (qrBit fl) qv ov lv 0 [] 0 [] []) wr (LM mb (qrBit fl) qv ov lv 0 [] 0 [] []) := (Goes.refl gC sC).grown gw
          obtain ⟨hpcr, hpSr⟩ := gG.safe _ _ hpc3' hpS3
          obtain ⟨N, hN⟩ : ∃ N, N = no + nopt := ⟨_, rfl⟩
          rw [← hN]
          clear gL gw4 gw hF3 gC sC bC
          obtain ⟨wa, rfl⟩ : ∃ x : World, x = wr := ⟨_, rfl⟩
          go_upto_if 75 with fail
          go_cut [] (fun wx => wa.grownBy wx none ∧ ∃ txt, wx.cell? ⟨wa.heap.size, 0, none⟩ = some (.string txt) ∧ Hid (0 < qs.length → txt = ⟨((MB fl qs rs no nopt).take n).toArray⟩))
          case first =>
            by_cases hq0 : 0 < qs.length
            · have hq0' : decide ((0 : Int) < (qs.length : Int)) = true := decide_eq_true (by omega)
              have hcv : (convert 23 9 (.slice (some ⟨mg, 0, none⟩) n cap)).run Ybaf.prog (wa.alloc (.cells #[.string ⟨#[]⟩] 9)) = .ok (.string ⟨((MB fl qs rs no nopt).take n).toArray⟩) (wa.alloc (.cells #[.string ⟨#[]⟩] 9)) := by
                have hl : ((MB fl qs rs no nopt).take n).length = n := by rw [List.length_take]; omega
                have := run_convert_bytes_back (P := Ybaf.prog) (wa.alloc (.cells #[.string ⟨#[]⟩] 9)) 23 9 5 ⟨mg, 0, none⟩ cap ((MB fl qs rs no nopt).take n) Ybaf.underlying23 Ybaf.underlying5 Ybaf.underlying9 (fun j hj => by
                  have hb := ((hM.out.below bW hmg).kept (World.grownBy_alloc wa (.cells #[.string ⟨#[]⟩] 9) none) (by simp)) j (Nat.lt_of_lt_of_le hj (by rw [List.length_take]; exact Nat.min_le_right _ _))
                  rw [add_zero_off]
                  rw [Nat.zero_add] at hb
                  rw [hb, List.getElem_take]
                  rfl)
                rw [hl] at this
                exact this
              go_wp2
              go_meet
              refine ⟨⟨rfl, rfl, rfl, by simp [World.setCell], fun k hk _ => ?_⟩, ⟨((MB fl qs rs no nopt).take n).toArray⟩, by simp, fun _ => rfl⟩
              exact Below.heap_alloc wa _ k hk
            · have hq0' : decide ((0 : Int) < (qs.length : Int)) = false := decide_eq_false (by omega)
              go_wp2
              go_meet
              exact ⟨World.grownBy_alloc wa _ none, ⟨#[]⟩, by simp, fun h => absurd h hq0⟩
          case rest =>
            obtain ⟨gx, txt, hxt, HX⟩ := hcut
            rename_i KK hKK
            refine hKK _ _ ?_
            have gY := gG.grown gx
            obtain ⟨hpcy, hpSy⟩ := gY.safe _ _ hpc3' hpS3
            have htS : Safe (LM mb (qrBit fl) qv ov lv 0 [] 0 [] []) ⟨wa.heap.size, 0, none⟩ := safe_new gG.own 0
            exact part14 F B mb mg n cap pb wa.heap.size N fl qs rs no nopt ps (qrBit fl) qv ov lv txt w wc _ _ _ _ _ _ _ _ _ _ _ _ _ _ _ _ _ _ _ _ _ _ _ _ _ _ _ _ _ _ _ _ _ _ _ _ _ _ _ _ _ _ _ _ _ _ _ _ _ _ _ _ _ _ _ _ _ _ _ _ _ _ _ _ _ _ _ _ _ _ _ _ _ _ _ _ _ _ _ _ _ _ _ _ _ _ _ _ _ _ _ _ _ _ _ _ _ _ _ _ _ _ _ _ _ _ _ _ _ _ _ _ _ _ _ _ _ _ _ _ _ _ _ _ _ _ _ _ _ _ _ _ _ _ _ _ _ _ _ _ _ _ _ _ _ _ _ _ _ _ _ _ _ _ _ _ _ _ _ _ _ _ _ _ _ _ _ _ _ _ _ _ _ _ _ _ _ _ _ _ _ _ _ _ _ _ _ rfl hF hW hmg hM hn hnM hcap hcm hN (by omega) (bW.grown gx gG.size (fun _ h => by cases h)) gY.own gY.size hpcy hpSy hxt htS HX

end Go.Proofs.YbulkaxhmFmt
