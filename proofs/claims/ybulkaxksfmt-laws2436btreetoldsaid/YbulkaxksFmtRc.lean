/-
  newReach.
-/
import Derived.Test.YbulkaxksFmtRc0
set_option linter.unusedVariables false
set_option linter.unusedSimpArgs false
namespace Go.Proofs
open Go.RowKit
theorem Ybaf.kinfo66 : (Ybaf.prog.info? 66).map (fun i => (i.zero, i.size)) = some (some (.agg #[.slice none 0 0, .slice none 0 0, .slice none 0 0, .slice none 0 0, .slice none 0 0]), 5) := by kernel_rfl
namespace YbulkaxksFmt

theorem bodyPost_mono {P : Program} {fn : Func} {R R' : Ending → World → Prop} (h : ∀ e w, R e w → R' e w) : ∀ x a w, bodyPost P fn R x a w → bodyPost P fn R' x a w
  | .normal, _, _, ⟨h1, v, h2, h3⟩ => ⟨h1, v, h2, h _ _ h3⟩
  | .ret, _, _, ⟨h1, v, h2, h3⟩ => ⟨h1, v, h2, h _ _ h3⟩
  | .panic _, _, _, ⟨h1, h2⟩ => ⟨h1, h _ _ h2⟩
  | .outgrown, _, _, h1 => h _ _ h1
  | .exit _, _, _, h1 => h1.elim
  | .goto _, _, _, h1 => h1.elim

def RL (g : Nat) (nv hv : Value) : List RowS := [rowOf 3 hv (List.replicate g (.int .i64 0)), rowOf 27 nv (List.replicate g (.slice none 0 0))]

/-- What the first statement leaves. -/
def Rch2 (g : Nat) (D : Nat → Nat) (w : World) (s4 : Value) (wx : World) : Prop :=
  ∃ (rb ob oc nb hb : Nat) (ls : List (List Nat)), s4 = .pointer (some ⟨rb, 0, none⟩) ∧ NbOk g D ls ∧
    Goes w.heap.size w [] wx (box 66 rb [.slice none 0 0, .slice none 0 0, .slice (some ⟨ob, 0, none⟩) g oc, .slice (some ⟨nb, 0, none⟩) g g, .slice (some ⟨hb, 0, none⟩) g g] :: RL g (.slice (some ⟨nb, 0, none⟩) g g) (.slice (some ⟨hb, 0, none⟩) g g)) ∧
    NatssL w.heap.size wx (box 66 rb [.slice none 0 0, .slice none 0 0, .slice (some ⟨ob, 0, none⟩) g oc, .slice (some ⟨nb, 0, none⟩) g g, .slice (some ⟨hb, 0, none⟩) g g] :: RL g (.slice (some ⟨nb, 0, none⟩) g g) (.slice (some ⟨hb, 0, none⟩) g g)) (some ⟨ob, 0, none⟩) ls

set_option maxRecDepth 100000 in
set_option maxHeartbeats 1000000 in
theorem reach_any (nb : Nat) (ps : List Nat) (all : Bool) (prs : List (Nat × Nat)) (w : World) (h : NetAt w nb ps all prs) (hp : ps.length ≤ 4) (hps : ps.sum ≤ 12) (hpr : Hid (∀ p ∈ prs, p.1 < ps.length ∧ p.2 < ps.length ∧ p.1 ≠ p.2)) (hprl : prs.length ≤ 6) (hD : Hid (∀ a, degN ps all prs a ≤ 12)) :
    Calls Ybaf.prog 16 #[.pointer (some ⟨nb, 0, none⟩)] w fun e w' => ∃ rb, e = .returned (.pointer (some ⟨rb, 0, none⟩)) ∧ ReachAt w' w.heap.size rb ps (degN ps all prs) ∧ Below w.heap.size w w' := by
  obtain ⟨i3, hi3, hz30, hz31, hz32⟩ := info_parts Ybaf.kinfo3
  obtain ⟨i27, hi27, hz270, hz271, hz272⟩ := info_parts Ybaf.kinfo27
  obtain ⟨ga, gc, g2, hgs⟩ := h.groups
  obtain ⟨g, hg⟩ : ∃ g, g = ps.length := ⟨_, rfl⟩
  have HG : Hid (g = ps.length) := hg
  have hg4 : g ≤ 4 := by omega
  rw [← hg] at g2
  clear hg hgs
  have hb27 : i27.bytes * g ≤ 281474976710656 := by rw [hz272]; omega
  have hb3 : i3.bytes * g ≤ 281474976710656 := by rw [hz32]; omega
  have hgm : g ≤ maxLen := by unfold maxLen; omega
  have HN : Hid (NetAt w nb ps all prs) := h
  clear h
  go_enter Ybaf.func16, Ybaf.ntmps16
  go_wp2_with fail
  go_cut [4] (fun s4 wx => Rch2 g (degN ps all prs) w s4 wx)
  case first =>
    refine wp_region_noPanic ?_
    refine wp_region_till (by kernel_rfl) (fun _ => True) (fun _ => True) [] 9 rfl ?_
    have g0 := (Goes.refl (Own.nil w w.heap.size) (Nat.le_refl _)).drew
    refine till_take0 0 (some 16) (v := ?va0) rfl rfl (by kernel_rfl) (by kernel_rfl) (by kernel_rfl) (fun _ _ _ h => h) (Or.inl ⟨by rfl, ?ya0⟩) trivial ?ra0
    case ya0 => intro w' _; go_simp; all_goals with_reducible rfl
    simp only [Act.put, List.setIfInBounds_toArray, List.set_cons_zero, List.set_cons_succ]
    refine till_take0 2 (some 18) (v := ?va2) rfl rfl (by kernel_rfl) (by kernel_rfl) (by kernel_rfl) (fun _ _ _ h => h) (Or.inl ⟨by rfl, ?ya2⟩) trivial ?ra2
    case ya2 => intro w' _; go_simp; all_goals with_reducible rfl
    simp only [Act.put, List.setIfInBounds_toArray, List.set_cons_zero, List.set_cons_succ]
    refine till_take0 4 (some 20) (v := ?va4) rfl rfl (by kernel_rfl) (by kernel_rfl) (by kernel_rfl) (fun _ _ _ h => h) (Or.inl ⟨by rfl, ?ya4⟩) trivial ?ra4
    case ya4 => intro w' _; go_simp; all_goals with_reducible rfl
    simp only [Act.put, List.setIfInBounds_toArray, List.set_cons_zero, List.set_cons_succ]
    obtain ⟨w0, hw0⟩ : ∃ W, W = w.drew := ⟨_, rfl⟩
    rw [← hw0] at g0 ⊢
    clear hw0
    refine till_all (rs := [1, 3, 5]) (by kernel_rfl) (by simp) ?_
    intro i hi
    have hi' : i = 1 ∨ i = 3 ∨ i = 5 := by simpa using hi
    clear hi
    rcases hi' with rfl | rfl | rfl
    · refine ⟨_, rfl, rfl, fun K hK => ?_⟩
      go_simp
      refine (neighbours_any nb ps all prs w0 (HN.out.below g0.below) hp hpr hprl).mono ?_
      rintro e w1 ⟨ob, oc, ls, he, hok, hns, hbl⟩
      rw [← HG.out] at he hok
      subst he
      have G1 := g0.grown (Below.asGrown hbl)
      have S1 : NatssL w.heap.size w1 _ (some ⟨ob, 0, none⟩) ls := NatssL.of_lo hns g0.size g0.own.lts
      refine hK _ _ (.inr id) id ?_
      clear hK K
      (try simp only [Act.put, List.setIfInBounds_toArray, List.set_cons_zero, List.set_cons_succ])
      refine till_all (rs := [3, 5]) (by kernel_rfl) (by simp) ?_
      intro i hi
      have hi' : i = 3 ∨ i = 5 := by simpa using hi
      clear hi
      rcases hi' with rfl | rfl
      · refine ⟨_, rfl, rfl, fun K hK => ?_⟩
        refine wp_make_full w1 (.tmp 18) (.tmp 18) 42 (some 19) rfl rfl w.heap.size 27 i27 (.slice none 0 0) 1 Ybaf.underlying42 hi27 hz270 hz271 g rfl rfl hb27 hgm G1.size ?_
        intro w2 r2 gr2
        rw [made_nil] at r2
        obtain ⟨nb0, hnb⟩ : ∃ x, x = w1.heap.size := ⟨_, rfl⟩
        have G2 := G1.cons (r := (rowOf 27 (.slice (some ⟨nb0, 0, none⟩) g g) (List.replicate g (.slice none 0 0)))) (by rw [hnb]; unfold RowS.at rowOf; simpa using r2) gr2 (fun k hk => by simp [rowOf, Value.ownBlock] at hk; omega)
        have S2 := S1.cons (r := (rowOf 27 (.slice (some ⟨nb0, 0, none⟩) g g) (List.replicate g (.slice none 0 0)))) gr2 (fun k hk => by simp [rowOf, Value.ownBlock] at hk; omega)
        refine hK _ _ (.inr id) id ?_
        clear hK K
        rw [← hnb]
        clear hnb r2 gr2
        (try simp only [Act.put, List.setIfInBounds_toArray, List.set_cons_zero, List.set_cons_succ])
        refine till_one (i := 5) (by kernel_rfl) rfl rfl fun K hK => ?_
        refine wp_make_full w2 (.tmp 20) (.tmp 20) 27 (some 21) rfl rfl w.heap.size 3 i3 (.int .i64 0) 1 Ybaf.underlying27 hi3 hz30 hz31 g rfl rfl hb3 hgm G2.size ?_
        intro w3 r3 gr3
        rw [made_zero] at r3
        obtain ⟨hb, hhb⟩ : ∃ x, x = w2.heap.size := ⟨_, rfl⟩
        have G3 := G2.cons (r := (rowOf 3 (.slice (some ⟨hb, 0, none⟩) g g) (List.replicate g (.int .i64 0)))) (by rw [hhb]; unfold RowS.at rowOf; simpa using r3) gr3 (fun k hk => by simp [rowOf, Value.ownBlock] at hk; omega)
        have S3 := S2.cons (r := (rowOf 3 (.slice (some ⟨hb, 0, none⟩) g g) (List.replicate g (.int .i64 0)))) gr3 (fun k hk => by simp [rowOf, Value.ownBlock] at hk; omega)
        refine hK _ _ (.inr id) id ?_
        clear hK K
        rw [← hhb]
        clear hhb r3 gr3
        (try simp only [Act.put, List.setIfInBounds_toArray, List.set_cons_zero, List.set_cons_succ])
        refine till_take0 6 (some 22) (v := ?vz16) rfl rfl (by kernel_rfl) (by kernel_rfl) (by kernel_rfl) (fun _ _ _ h => h) (Or.inl ⟨by rfl, ?yz16⟩) trivial ?rz16
        case yz16 => intro w' _; go_simp; all_goals with_reducible rfl
        simp only [Act.put, List.setIfInBounds_toArray, List.set_cons_zero, List.set_cons_succ]
        have GF := G3
        have SF := S3
        obtain ⟨rb, hrb⟩ : ∃ x, x = w3.heap.size := ⟨_, rfl⟩
        have GB := GF.cons (r := box 66 rb [.slice none 0 0, .slice none 0 0, .slice (some ⟨ob, 0, none⟩) g oc, .slice (some ⟨nb0, 0, none⟩) g g, .slice (some ⟨hb, 0, none⟩) g g]) (by rw [hrb]; exact box_new w3 w.heap.size 66 [.slice none 0 0, .slice none 0 0, .slice (some ⟨ob, 0, none⟩) g oc, .slice (some ⟨nb0, 0, none⟩) g g, .slice (some ⟨hb, 0, none⟩) g g] G3.size) (World.grownBy_alloc _ _ none) (fun k hk => by simp [box, Value.ownBlock] at hk; omega)
        have SB := SF.cons (r := box 66 rb [.slice none 0 0, .slice none 0 0, .slice (some ⟨ob, 0, none⟩) g oc, .slice (some ⟨nb0, 0, none⟩) g g, .slice (some ⟨hb, 0, none⟩) g g]) (World.grownBy_alloc w3 (.cells [.slice none 0 0, .slice none 0 0, .slice (some ⟨ob, 0, none⟩) g oc, .slice (some ⟨nb0, 0, none⟩) g g, .slice (some ⟨hb, 0, none⟩) g g].toArray 66) none) (fun k hk => by simp [box, Value.ownBlock] at hk; omega)
        refine till_one (i := 7) (by kernel_rfl) rfl rfl fun K hK => ?_
        go_simp
        refine hK _ _ (.inr id) id ?_
        clear hK K
        refine till_take0 8 (some 4) (v := ?vz18) rfl rfl (by kernel_rfl) (by kernel_rfl) (by kernel_rfl) (fun _ _ _ h => h) (Or.inl ⟨by rfl, ?yz18⟩) trivial ?rz18
        case yz18 => intro w' _; go_simp; all_goals with_reducible rfl
        simp only [Act.put, List.setIfInBounds_toArray, List.set_cons_zero, List.set_cons_succ]
        refine till_done (by kernel_rfl) ?_ _
        refine NoPanic.normal ?_
        go_wp2_with fail
        go_meet
        exact ⟨rb, ob, oc, nb0, hb, ls, by rw [hrb], hok, GB, SB⟩
      · refine ⟨_, rfl, rfl, fun K hK => ?_⟩
        refine wp_make_full w1 (.tmp 20) (.tmp 20) 27 (some 21) rfl rfl w.heap.size 3 i3 (.int .i64 0) 1 Ybaf.underlying27 hi3 hz30 hz31 g rfl rfl hb3 hgm G1.size ?_
        intro w2 r2 gr2
        rw [made_zero] at r2
        obtain ⟨hb, hhb⟩ : ∃ x, x = w1.heap.size := ⟨_, rfl⟩
        have G2 := G1.cons (r := (rowOf 3 (.slice (some ⟨hb, 0, none⟩) g g) (List.replicate g (.int .i64 0)))) (by rw [hhb]; unfold RowS.at rowOf; simpa using r2) gr2 (fun k hk => by simp [rowOf, Value.ownBlock] at hk; omega)
        have S2 := S1.cons (r := (rowOf 3 (.slice (some ⟨hb, 0, none⟩) g g) (List.replicate g (.int .i64 0)))) gr2 (fun k hk => by simp [rowOf, Value.ownBlock] at hk; omega)
        refine hK _ _ (.inr id) id ?_
        clear hK K
        rw [← hhb]
        clear hhb r2 gr2
        (try simp only [Act.put, List.setIfInBounds_toArray, List.set_cons_zero, List.set_cons_succ])
        refine till_one (i := 3) (by kernel_rfl) rfl rfl fun K hK => ?_
        refine wp_make_full w2 (.tmp 18) (.tmp 18) 42 (some 19) rfl rfl w.heap.size 27 i27 (.slice none 0 0) 1 Ybaf.underlying42 hi27 hz270 hz271 g rfl rfl hb27 hgm G2.size ?_
        intro w3 r3 gr3
        rw [made_nil] at r3
        obtain ⟨nb0, hnb⟩ : ∃ x, x = w2.heap.size := ⟨_, rfl⟩
        have G3 := G2.cons (r := (rowOf 27 (.slice (some ⟨nb0, 0, none⟩) g g) (List.replicate g (.slice none 0 0)))) (by rw [hnb]; unfold RowS.at rowOf; simpa using r3) gr3 (fun k hk => by simp [rowOf, Value.ownBlock] at hk; omega)
        have S3 := S2.cons (r := (rowOf 27 (.slice (some ⟨nb0, 0, none⟩) g g) (List.replicate g (.slice none 0 0)))) gr3 (fun k hk => by simp [rowOf, Value.ownBlock] at hk; omega)
        refine hK _ _ (.inr id) id ?_
        clear hK K
        rw [← hnb]
        clear hnb r3 gr3
        (try simp only [Act.put, List.setIfInBounds_toArray, List.set_cons_zero, List.set_cons_succ])
        refine till_take0 6 (some 22) (v := ?vz26) rfl rfl (by kernel_rfl) (by kernel_rfl) (by kernel_rfl) (fun _ _ _ h => h) (Or.inl ⟨by rfl, ?yz26⟩) trivial ?rz26
        case yz26 => intro w' _; go_simp; all_goals with_reducible rfl
        simp only [Act.put, List.setIfInBounds_toArray, List.set_cons_zero, List.set_cons_succ]
        have GF := G3.swap
        have SF := S3.goes (Goes.refl G3.own G3.size).swap
        obtain ⟨rb, hrb⟩ : ∃ x, x = w3.heap.size := ⟨_, rfl⟩
        have GB := GF.cons (r := box 66 rb [.slice none 0 0, .slice none 0 0, .slice (some ⟨ob, 0, none⟩) g oc, .slice (some ⟨nb0, 0, none⟩) g g, .slice (some ⟨hb, 0, none⟩) g g]) (by rw [hrb]; exact box_new w3 w.heap.size 66 [.slice none 0 0, .slice none 0 0, .slice (some ⟨ob, 0, none⟩) g oc, .slice (some ⟨nb0, 0, none⟩) g g, .slice (some ⟨hb, 0, none⟩) g g] G3.size) (World.grownBy_alloc _ _ none) (fun k hk => by simp [box, Value.ownBlock] at hk; omega)
        have SB := SF.cons (r := box 66 rb [.slice none 0 0, .slice none 0 0, .slice (some ⟨ob, 0, none⟩) g oc, .slice (some ⟨nb0, 0, none⟩) g g, .slice (some ⟨hb, 0, none⟩) g g]) (World.grownBy_alloc w3 (.cells [.slice none 0 0, .slice none 0 0, .slice (some ⟨ob, 0, none⟩) g oc, .slice (some ⟨nb0, 0, none⟩) g g, .slice (some ⟨hb, 0, none⟩) g g].toArray 66) none) (fun k hk => by simp [box, Value.ownBlock] at hk; omega)
        refine till_one (i := 7) (by kernel_rfl) rfl rfl fun K hK => ?_
        go_simp
        refine hK _ _ (.inr id) id ?_
        clear hK K
        refine till_take0 8 (some 4) (v := ?vz28) rfl rfl (by kernel_rfl) (by kernel_rfl) (by kernel_rfl) (fun _ _ _ h => h) (Or.inl ⟨by rfl, ?yz28⟩) trivial ?rz28
        case yz28 => intro w' _; go_simp; all_goals with_reducible rfl
        simp only [Act.put, List.setIfInBounds_toArray, List.set_cons_zero, List.set_cons_succ]
        refine till_done (by kernel_rfl) ?_ _
        refine NoPanic.normal ?_
        go_wp2_with fail
        go_meet
        exact ⟨rb, ob, oc, nb0, hb, ls, by rw [hrb], hok, GB, SB⟩
    · refine ⟨_, rfl, rfl, fun K hK => ?_⟩
      refine wp_make_full w0 (.tmp 18) (.tmp 18) 42 (some 19) rfl rfl w.heap.size 27 i27 (.slice none 0 0) 1 Ybaf.underlying42 hi27 hz270 hz271 g rfl rfl hb27 hgm g0.size ?_
      intro w1 r1 gr1
      rw [made_nil] at r1
      obtain ⟨nb0, hnb⟩ : ∃ x, x = w0.heap.size := ⟨_, rfl⟩
      have G1 := g0.cons (r := (rowOf 27 (.slice (some ⟨nb0, 0, none⟩) g g) (List.replicate g (.slice none 0 0)))) (by rw [hnb]; unfold RowS.at rowOf; simpa using r1) gr1 (fun k hk => by simp [rowOf, Value.ownBlock] at hk; omega)
      refine hK _ _ (.inr id) id ?_
      clear hK K
      rw [← hnb]
      clear hnb r1 gr1
      (try simp only [Act.put, List.setIfInBounds_toArray, List.set_cons_zero, List.set_cons_succ])
      refine till_all (rs := [1, 5]) (by kernel_rfl) (by simp) ?_
      intro i hi
      have hi' : i = 1 ∨ i = 5 := by simpa using hi
      clear hi
      rcases hi' with rfl | rfl
      · refine ⟨_, rfl, rfl, fun K hK => ?_⟩
        go_simp
        refine (neighbours_any nb ps all prs w1 (HN.out.below G1.below) hp hpr hprl).mono ?_
        rintro e w2 ⟨ob, oc, ls, he, hok, hns, hbl⟩
        rw [← HG.out] at he hok
        subst he
        have G2 := G1.grown (Below.asGrown hbl)
        have S2 : NatssL w.heap.size w2 _ (some ⟨ob, 0, none⟩) ls := NatssL.of_lo hns G1.size G1.own.lts
        refine hK _ _ (.inr id) id ?_
        clear hK K
        (try simp only [Act.put, List.setIfInBounds_toArray, List.set_cons_zero, List.set_cons_succ])
        refine till_one (i := 5) (by kernel_rfl) rfl rfl fun K hK => ?_
        refine wp_make_full w2 (.tmp 20) (.tmp 20) 27 (some 21) rfl rfl w.heap.size 3 i3 (.int .i64 0) 1 Ybaf.underlying27 hi3 hz30 hz31 g rfl rfl hb3 hgm G2.size ?_
        intro w3 r3 gr3
        rw [made_zero] at r3
        obtain ⟨hb, hhb⟩ : ∃ x, x = w2.heap.size := ⟨_, rfl⟩
        have G3 := G2.cons (r := (rowOf 3 (.slice (some ⟨hb, 0, none⟩) g g) (List.replicate g (.int .i64 0)))) (by rw [hhb]; unfold RowS.at rowOf; simpa using r3) gr3 (fun k hk => by simp [rowOf, Value.ownBlock] at hk; omega)
        have S3 := S2.cons (r := (rowOf 3 (.slice (some ⟨hb, 0, none⟩) g g) (List.replicate g (.int .i64 0)))) gr3 (fun k hk => by simp [rowOf, Value.ownBlock] at hk; omega)
        refine hK _ _ (.inr id) id ?_
        clear hK K
        rw [← hhb]
        clear hhb r3 gr3
        (try simp only [Act.put, List.setIfInBounds_toArray, List.set_cons_zero, List.set_cons_succ])
        refine till_take0 6 (some 22) (v := ?vz36) rfl rfl (by kernel_rfl) (by kernel_rfl) (by kernel_rfl) (fun _ _ _ h => h) (Or.inl ⟨by rfl, ?yz36⟩) trivial ?rz36
        case yz36 => intro w' _; go_simp; all_goals with_reducible rfl
        simp only [Act.put, List.setIfInBounds_toArray, List.set_cons_zero, List.set_cons_succ]
        have GF := G3
        have SF := S3
        obtain ⟨rb, hrb⟩ : ∃ x, x = w3.heap.size := ⟨_, rfl⟩
        have GB := GF.cons (r := box 66 rb [.slice none 0 0, .slice none 0 0, .slice (some ⟨ob, 0, none⟩) g oc, .slice (some ⟨nb0, 0, none⟩) g g, .slice (some ⟨hb, 0, none⟩) g g]) (by rw [hrb]; exact box_new w3 w.heap.size 66 [.slice none 0 0, .slice none 0 0, .slice (some ⟨ob, 0, none⟩) g oc, .slice (some ⟨nb0, 0, none⟩) g g, .slice (some ⟨hb, 0, none⟩) g g] G3.size) (World.grownBy_alloc _ _ none) (fun k hk => by simp [box, Value.ownBlock] at hk; omega)
        have SB := SF.cons (r := box 66 rb [.slice none 0 0, .slice none 0 0, .slice (some ⟨ob, 0, none⟩) g oc, .slice (some ⟨nb0, 0, none⟩) g g, .slice (some ⟨hb, 0, none⟩) g g]) (World.grownBy_alloc w3 (.cells [.slice none 0 0, .slice none 0 0, .slice (some ⟨ob, 0, none⟩) g oc, .slice (some ⟨nb0, 0, none⟩) g g, .slice (some ⟨hb, 0, none⟩) g g].toArray 66) none) (fun k hk => by simp [box, Value.ownBlock] at hk; omega)
        refine till_one (i := 7) (by kernel_rfl) rfl rfl fun K hK => ?_
        go_simp
        refine hK _ _ (.inr id) id ?_
        clear hK K
        refine till_take0 8 (some 4) (v := ?vz38) rfl rfl (by kernel_rfl) (by kernel_rfl) (by kernel_rfl) (fun _ _ _ h => h) (Or.inl ⟨by rfl, ?yz38⟩) trivial ?rz38
        case yz38 => intro w' _; go_simp; all_goals with_reducible rfl
        simp only [Act.put, List.setIfInBounds_toArray, List.set_cons_zero, List.set_cons_succ]
        refine till_done (by kernel_rfl) ?_ _
        refine NoPanic.normal ?_
        go_wp2_with fail
        go_meet
        exact ⟨rb, ob, oc, nb0, hb, ls, by rw [hrb], hok, GB, SB⟩
      · refine ⟨_, rfl, rfl, fun K hK => ?_⟩
        refine wp_make_full w1 (.tmp 20) (.tmp 20) 27 (some 21) rfl rfl w.heap.size 3 i3 (.int .i64 0) 1 Ybaf.underlying27 hi3 hz30 hz31 g rfl rfl hb3 hgm G1.size ?_
        intro w2 r2 gr2
        rw [made_zero] at r2
        obtain ⟨hb, hhb⟩ : ∃ x, x = w1.heap.size := ⟨_, rfl⟩
        have G2 := G1.cons (r := (rowOf 3 (.slice (some ⟨hb, 0, none⟩) g g) (List.replicate g (.int .i64 0)))) (by rw [hhb]; unfold RowS.at rowOf; simpa using r2) gr2 (fun k hk => by simp [rowOf, Value.ownBlock] at hk; omega)
        refine hK _ _ (.inr id) id ?_
        clear hK K
        rw [← hhb]
        clear hhb r2 gr2
        (try simp only [Act.put, List.setIfInBounds_toArray, List.set_cons_zero, List.set_cons_succ])
        refine till_one (i := 1) (by kernel_rfl) rfl rfl fun K hK => ?_
        go_simp
        refine (neighbours_any nb ps all prs w2 (HN.out.below G2.below) hp hpr hprl).mono ?_
        rintro e w3 ⟨ob, oc, ls, he, hok, hns, hbl⟩
        rw [← HG.out] at he hok
        subst he
        have G3 := G2.grown (Below.asGrown hbl)
        have S3 : NatssL w.heap.size w3 _ (some ⟨ob, 0, none⟩) ls := NatssL.of_lo hns G2.size G2.own.lts
        refine hK _ _ (.inr id) id ?_
        clear hK K
        (try simp only [Act.put, List.setIfInBounds_toArray, List.set_cons_zero, List.set_cons_succ])
        refine till_take0 6 (some 22) (v := ?vz46) rfl rfl (by kernel_rfl) (by kernel_rfl) (by kernel_rfl) (fun _ _ _ h => h) (Or.inl ⟨by rfl, ?yz46⟩) trivial ?rz46
        case yz46 => intro w' _; go_simp; all_goals with_reducible rfl
        simp only [Act.put, List.setIfInBounds_toArray, List.set_cons_zero, List.set_cons_succ]
        have GF := G3
        have SF := S3
        obtain ⟨rb, hrb⟩ : ∃ x, x = w3.heap.size := ⟨_, rfl⟩
        have GB := GF.cons (r := box 66 rb [.slice none 0 0, .slice none 0 0, .slice (some ⟨ob, 0, none⟩) g oc, .slice (some ⟨nb0, 0, none⟩) g g, .slice (some ⟨hb, 0, none⟩) g g]) (by rw [hrb]; exact box_new w3 w.heap.size 66 [.slice none 0 0, .slice none 0 0, .slice (some ⟨ob, 0, none⟩) g oc, .slice (some ⟨nb0, 0, none⟩) g g, .slice (some ⟨hb, 0, none⟩) g g] G3.size) (World.grownBy_alloc _ _ none) (fun k hk => by simp [box, Value.ownBlock] at hk; omega)
        have SB := SF.cons (r := box 66 rb [.slice none 0 0, .slice none 0 0, .slice (some ⟨ob, 0, none⟩) g oc, .slice (some ⟨nb0, 0, none⟩) g g, .slice (some ⟨hb, 0, none⟩) g g]) (World.grownBy_alloc w3 (.cells [.slice none 0 0, .slice none 0 0, .slice (some ⟨ob, 0, none⟩) g oc, .slice (some ⟨nb0, 0, none⟩) g g, .slice (some ⟨hb, 0, none⟩) g g].toArray 66) none) (fun k hk => by simp [box, Value.ownBlock] at hk; omega)
        refine till_one (i := 7) (by kernel_rfl) rfl rfl fun K hK => ?_
        go_simp
        refine hK _ _ (.inr id) id ?_
        clear hK K
        refine till_take0 8 (some 4) (v := ?vz48) rfl rfl (by kernel_rfl) (by kernel_rfl) (by kernel_rfl) (fun _ _ _ h => h) (Or.inl ⟨by rfl, ?yz48⟩) trivial ?rz48
        case yz48 => intro w' _; go_simp; all_goals with_reducible rfl
        simp only [Act.put, List.setIfInBounds_toArray, List.set_cons_zero, List.set_cons_succ]
        refine till_done (by kernel_rfl) ?_ _
        refine NoPanic.normal ?_
        go_wp2_with fail
        go_meet
        exact ⟨rb, ob, oc, nb0, hb, ls, by rw [hrb], hok, GB, SB⟩
    · refine ⟨_, rfl, rfl, fun K hK => ?_⟩
      refine wp_make_full w0 (.tmp 20) (.tmp 20) 27 (some 21) rfl rfl w.heap.size 3 i3 (.int .i64 0) 1 Ybaf.underlying27 hi3 hz30 hz31 g rfl rfl hb3 hgm g0.size ?_
      intro w1 r1 gr1
      rw [made_zero] at r1
      obtain ⟨hb, hhb⟩ : ∃ x, x = w0.heap.size := ⟨_, rfl⟩
      have G1 := g0.cons (r := (rowOf 3 (.slice (some ⟨hb, 0, none⟩) g g) (List.replicate g (.int .i64 0)))) (by rw [hhb]; unfold RowS.at rowOf; simpa using r1) gr1 (fun k hk => by simp [rowOf, Value.ownBlock] at hk; omega)
      refine hK _ _ (.inr id) id ?_
      clear hK K
      rw [← hhb]
      clear hhb r1 gr1
      (try simp only [Act.put, List.setIfInBounds_toArray, List.set_cons_zero, List.set_cons_succ])
      refine till_all (rs := [1, 3]) (by kernel_rfl) (by simp) ?_
      intro i hi
      have hi' : i = 1 ∨ i = 3 := by simpa using hi
      clear hi
      rcases hi' with rfl | rfl
      · refine ⟨_, rfl, rfl, fun K hK => ?_⟩
        go_simp
        refine (neighbours_any nb ps all prs w1 (HN.out.below G1.below) hp hpr hprl).mono ?_
        rintro e w2 ⟨ob, oc, ls, he, hok, hns, hbl⟩
        rw [← HG.out] at he hok
        subst he
        have G2 := G1.grown (Below.asGrown hbl)
        have S2 : NatssL w.heap.size w2 _ (some ⟨ob, 0, none⟩) ls := NatssL.of_lo hns G1.size G1.own.lts
        refine hK _ _ (.inr id) id ?_
        clear hK K
        (try simp only [Act.put, List.setIfInBounds_toArray, List.set_cons_zero, List.set_cons_succ])
        refine till_one (i := 3) (by kernel_rfl) rfl rfl fun K hK => ?_
        refine wp_make_full w2 (.tmp 18) (.tmp 18) 42 (some 19) rfl rfl w.heap.size 27 i27 (.slice none 0 0) 1 Ybaf.underlying42 hi27 hz270 hz271 g rfl rfl hb27 hgm G2.size ?_
        intro w3 r3 gr3
        rw [made_nil] at r3
        obtain ⟨nb0, hnb⟩ : ∃ x, x = w2.heap.size := ⟨_, rfl⟩
        have G3 := G2.cons (r := (rowOf 27 (.slice (some ⟨nb0, 0, none⟩) g g) (List.replicate g (.slice none 0 0)))) (by rw [hnb]; unfold RowS.at rowOf; simpa using r3) gr3 (fun k hk => by simp [rowOf, Value.ownBlock] at hk; omega)
        have S3 := S2.cons (r := (rowOf 27 (.slice (some ⟨nb0, 0, none⟩) g g) (List.replicate g (.slice none 0 0)))) gr3 (fun k hk => by simp [rowOf, Value.ownBlock] at hk; omega)
        refine hK _ _ (.inr id) id ?_
        clear hK K
        rw [← hnb]
        clear hnb r3 gr3
        (try simp only [Act.put, List.setIfInBounds_toArray, List.set_cons_zero, List.set_cons_succ])
        refine till_take0 6 (some 22) (v := ?vz56) rfl rfl (by kernel_rfl) (by kernel_rfl) (by kernel_rfl) (fun _ _ _ h => h) (Or.inl ⟨by rfl, ?yz56⟩) trivial ?rz56
        case yz56 => intro w' _; go_simp; all_goals with_reducible rfl
        simp only [Act.put, List.setIfInBounds_toArray, List.set_cons_zero, List.set_cons_succ]
        have GF := G3.swap
        have SF := S3.goes (Goes.refl G3.own G3.size).swap
        obtain ⟨rb, hrb⟩ : ∃ x, x = w3.heap.size := ⟨_, rfl⟩
        have GB := GF.cons (r := box 66 rb [.slice none 0 0, .slice none 0 0, .slice (some ⟨ob, 0, none⟩) g oc, .slice (some ⟨nb0, 0, none⟩) g g, .slice (some ⟨hb, 0, none⟩) g g]) (by rw [hrb]; exact box_new w3 w.heap.size 66 [.slice none 0 0, .slice none 0 0, .slice (some ⟨ob, 0, none⟩) g oc, .slice (some ⟨nb0, 0, none⟩) g g, .slice (some ⟨hb, 0, none⟩) g g] G3.size) (World.grownBy_alloc _ _ none) (fun k hk => by simp [box, Value.ownBlock] at hk; omega)
        have SB := SF.cons (r := box 66 rb [.slice none 0 0, .slice none 0 0, .slice (some ⟨ob, 0, none⟩) g oc, .slice (some ⟨nb0, 0, none⟩) g g, .slice (some ⟨hb, 0, none⟩) g g]) (World.grownBy_alloc w3 (.cells [.slice none 0 0, .slice none 0 0, .slice (some ⟨ob, 0, none⟩) g oc, .slice (some ⟨nb0, 0, none⟩) g g, .slice (some ⟨hb, 0, none⟩) g g].toArray 66) none) (fun k hk => by simp [box, Value.ownBlock] at hk; omega)
        refine till_one (i := 7) (by kernel_rfl) rfl rfl fun K hK => ?_
        go_simp
        refine hK _ _ (.inr id) id ?_
        clear hK K
        refine till_take0 8 (some 4) (v := ?vz58) rfl rfl (by kernel_rfl) (by kernel_rfl) (by kernel_rfl) (fun _ _ _ h => h) (Or.inl ⟨by rfl, ?yz58⟩) trivial ?rz58
        case yz58 => intro w' _; go_simp; all_goals with_reducible rfl
        simp only [Act.put, List.setIfInBounds_toArray, List.set_cons_zero, List.set_cons_succ]
        refine till_done (by kernel_rfl) ?_ _
        refine NoPanic.normal ?_
        go_wp2_with fail
        go_meet
        exact ⟨rb, ob, oc, nb0, hb, ls, by rw [hrb], hok, GB, SB⟩
      · refine ⟨_, rfl, rfl, fun K hK => ?_⟩
        refine wp_make_full w1 (.tmp 18) (.tmp 18) 42 (some 19) rfl rfl w.heap.size 27 i27 (.slice none 0 0) 1 Ybaf.underlying42 hi27 hz270 hz271 g rfl rfl hb27 hgm G1.size ?_
        intro w2 r2 gr2
        rw [made_nil] at r2
        obtain ⟨nb0, hnb⟩ : ∃ x, x = w1.heap.size := ⟨_, rfl⟩
        have G2 := G1.cons (r := (rowOf 27 (.slice (some ⟨nb0, 0, none⟩) g g) (List.replicate g (.slice none 0 0)))) (by rw [hnb]; unfold RowS.at rowOf; simpa using r2) gr2 (fun k hk => by simp [rowOf, Value.ownBlock] at hk; omega)
        refine hK _ _ (.inr id) id ?_
        clear hK K
        rw [← hnb]
        clear hnb r2 gr2
        (try simp only [Act.put, List.setIfInBounds_toArray, List.set_cons_zero, List.set_cons_succ])
        refine till_one (i := 1) (by kernel_rfl) rfl rfl fun K hK => ?_
        go_simp
        refine (neighbours_any nb ps all prs w2 (HN.out.below G2.below) hp hpr hprl).mono ?_
        rintro e w3 ⟨ob, oc, ls, he, hok, hns, hbl⟩
        rw [← HG.out] at he hok
        subst he
        have G3 := G2.grown (Below.asGrown hbl)
        have S3 : NatssL w.heap.size w3 _ (some ⟨ob, 0, none⟩) ls := NatssL.of_lo hns G2.size G2.own.lts
        refine hK _ _ (.inr id) id ?_
        clear hK K
        (try simp only [Act.put, List.setIfInBounds_toArray, List.set_cons_zero, List.set_cons_succ])
        refine till_take0 6 (some 22) (v := ?vz66) rfl rfl (by kernel_rfl) (by kernel_rfl) (by kernel_rfl) (fun _ _ _ h => h) (Or.inl ⟨by rfl, ?yz66⟩) trivial ?rz66
        case yz66 => intro w' _; go_simp; all_goals with_reducible rfl
        simp only [Act.put, List.setIfInBounds_toArray, List.set_cons_zero, List.set_cons_succ]
        have GF := G3.swap
        have SF := S3.goes (Goes.refl G3.own G3.size).swap
        obtain ⟨rb, hrb⟩ : ∃ x, x = w3.heap.size := ⟨_, rfl⟩
        have GB := GF.cons (r := box 66 rb [.slice none 0 0, .slice none 0 0, .slice (some ⟨ob, 0, none⟩) g oc, .slice (some ⟨nb0, 0, none⟩) g g, .slice (some ⟨hb, 0, none⟩) g g]) (by rw [hrb]; exact box_new w3 w.heap.size 66 [.slice none 0 0, .slice none 0 0, .slice (some ⟨ob, 0, none⟩) g oc, .slice (some ⟨nb0, 0, none⟩) g g, .slice (some ⟨hb, 0, none⟩) g g] G3.size) (World.grownBy_alloc _ _ none) (fun k hk => by simp [box, Value.ownBlock] at hk; omega)
        have SB := SF.cons (r := box 66 rb [.slice none 0 0, .slice none 0 0, .slice (some ⟨ob, 0, none⟩) g oc, .slice (some ⟨nb0, 0, none⟩) g g, .slice (some ⟨hb, 0, none⟩) g g]) (World.grownBy_alloc w3 (.cells [.slice none 0 0, .slice none 0 0, .slice (some ⟨ob, 0, none⟩) g oc, .slice (some ⟨nb0, 0, none⟩) g g, .slice (some ⟨hb, 0, none⟩) g g].toArray 66) none) (fun k hk => by simp [box, Value.ownBlock] at hk; omega)
        refine till_one (i := 7) (by kernel_rfl) rfl rfl fun K hK => ?_
        go_simp
        refine hK _ _ (.inr id) id ?_
        clear hK K
        refine till_take0 8 (some 4) (v := ?vz68) rfl rfl (by kernel_rfl) (by kernel_rfl) (by kernel_rfl) (fun _ _ _ h => h) (Or.inl ⟨by rfl, ?yz68⟩) trivial ?rz68
        case yz68 => intro w' _; go_simp; all_goals with_reducible rfl
        simp only [Act.put, List.setIfInBounds_toArray, List.set_cons_zero, List.set_cons_succ]
        refine till_done (by kernel_rfl) ?_ _
        refine NoPanic.normal ?_
        go_wp2_with fail
        go_meet
        exact ⟨rb, ob, oc, nb0, hb, ls, by rw [hrb], hok, GB, SB⟩
  case rest =>
    obtain ⟨rb, ob, oc, nb0, hb, ls, rfl, hok, G2, S2⟩ := hcut
    obtain ⟨w1, rfl⟩ : ∃ x : World, x = wc := ⟨_, rfl⟩
    have HOK : Hid (NbOk g (degN ps all prs) ls) := hok
    have HS2 : Hid (NatssL w.heap.size w1 (box 66 rb [.slice none 0 0, .slice none 0 0, .slice (some ⟨ob, 0, none⟩) g oc, .slice (some ⟨nb0, 0, none⟩) g g, .slice (some ⟨hb, 0, none⟩) g g] :: RL g (.slice (some ⟨nb0, 0, none⟩) g g) (.slice (some ⟨hb, 0, none⟩) g g)) (some ⟨ob, 0, none⟩) ls) := S2
    clear hok S2
    have eRL : (box 66 rb [.slice none 0 0, .slice none 0 0, .slice (some ⟨ob, 0, none⟩) g oc, .slice (some ⟨nb0, 0, none⟩) g g, .slice (some ⟨hb, 0, none⟩) g g] :: RL g (.slice (some ⟨nb0, 0, none⟩) g g) (.slice (some ⟨hb, 0, none⟩) g g)) = RLs rb (.slice none 0 0) (.slice none 0 0) (.slice (some ⟨ob, 0, none⟩) g oc) g nb0 hb (List.replicate g (.slice none 0 0)) (List.replicate g 0) := by
      unfold RL RLs
      rw [List.map_replicate]
    rw [eRL] at G2 HS2
    rename_i KK hKK
    refine hKK _ _ ?_
    refine Code.wp_mono ?_ (reach_rest nb rb g ob oc nb0 hb ps all prs (degN ps all prs) ls w w1 _ _ _ _ _ _ _ _ _ _ _ _ _ _ _ _ _ _ _ _ _ _ _ _ _ _ _ _ _ _ _ _ _ _ _ _ _ _ _ _ _ _ _ _ _ _ _ _ _ _ _ _ _ _ _ _ _ _ _ _ _ _ _ _ _ _ _ _ _ _ _ _ _ _ _ _ _ _ _ _ _ _ _ _ _ _ _ _ _ _ _ _ _ _ _ _ _ _ _ _ HG hg4 hps HN HOK hD G2 HS2)
    refine bodyPost_mono ?_
    rintro e w2 ⟨rfl, h1, h2⟩
    exact ⟨rb, rfl, h1, h2⟩

end YbulkaxksFmt
end Go.Proofs
