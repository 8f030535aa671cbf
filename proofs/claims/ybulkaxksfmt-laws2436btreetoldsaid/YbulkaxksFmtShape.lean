/-
  newMAPShape.
-/
import Derived.Test.YbulkaxksFmtMid
set_option linter.unusedVariables false
set_option linter.unusedSimpArgs false
namespace Go.Proofs
open Go.Extern.Stop Go.Stop Go.Extern Go.RowKit
theorem Ybaf.kinfo45 : (Ybaf.prog.info? 45).map (fun i => (i.zero, i.size)) = some (some (.agg #[.pointer none, .int .i64 0, .int .i64 0, .slice none 0 0, .bool false, .int .u8 0, .int .i64 0, .slice none 0 0, .int .i64 0, .bool false, .int .i64 0, .int .i64 0, .slice none 0 0, .slice none 0 0, .slice none 0 0]), 15) := by kernel_rfl
namespace YbulkaxksFmt

theorem linkN_le (ps : List Nat) (all : Bool) (prs : List (Nat × Nat)) (hp : ps.length ≤ 4) (hl : prs.length ≤ 6) : linkN ps all prs ≤ 6 := by
  unfold linkN
  generalize ps.length = n at hp ⊢
  have : n = 0 ∨ n = 1 ∨ n = 2 ∨ n = 3 ∨ n = 4 := by omega
  rcases this with rfl | rfl | rfl | rfl | rfl <;> cases all <;> simp <;> omega

theorem groupL_lt : ∀ (ps : List Nat) (h x : Nat), x ∈ groupL h ps → x < h + ps.length
  | [], h, x, hx => by simp [groupL] at hx
  | p :: t, h, x, hx => by
    simp only [groupL, List.mem_append, List.mem_replicate] at hx
    rcases hx with ⟨_, rfl⟩ | hx
    · simp
    · have := groupL_lt t (h + 1) x hx
      simp only [List.length_cons]
      omega

/-- What the shape's statement leaves. -/
def Sh5 (w : World) (g q src : Nat) (ps : List Nat) (D : Nat → Nat) (rounds few : Int) (corr fully : Bool) (s15 : Value) (wx : World) : Prop :=
  ∃ sb rb fb lo, s15 = .pointer (some ⟨sb, 0, none⟩) ∧ Goes w.heap.size w [] wx [rowOf 27 (.slice (some ⟨fb, 0, none⟩) g g) (List.replicate g (.slice none 0 0)), box 45 sb ((shXs rb rounds src (.slice (some ⟨fb, 0, none⟩) g g) corr few fully) (.slice none 0 0) (.slice none 0 0) (.slice none 0 0))] ∧
    ReachL lo wx [rowOf 27 (.slice (some ⟨fb, 0, none⟩) g g) (List.replicate g (.slice none 0 0)), box 45 sb ((shXs rb rounds src (.slice (some ⟨fb, 0, none⟩) g g) corr few fully) (.slice none 0 0) (.slice none 0 0) (.slice none 0 0))] rb ps D

set_option maxRecDepth 1000000 in
set_option maxHeartbeats 2000000 in
theorem shape_any (F : Interp) (nb src : Nat) (ps : List Nat) (all : Bool) (prs : List (Nat × Nat)) (rounds few : Int) (corr : Bool) (w : World) (hF : F.answers w.tape) (h : NetAt w nb ps all prs) (hp : ps.length ≤ 4) (h1p : 1 ≤ ps.length) (hps : ps.sum ≤ 12)
    (hpr : Hid (∀ p ∈ prs, p.1 < ps.length ∧ p.2 < ps.length ∧ p.1 ≠ p.2)) (hprl : prs.length ≤ 6) (hD : Hid (∀ a, degN ps all prs a ≤ 12)) (hsrc : src < ps.sum) (hrd : 0 ≤ rounds ∧ rounds ≤ 4) :
    Calls Ybaf.prog 10 #[.pointer (some ⟨nb, 0, none⟩), .int .i64 (src : Int), .int .i64 rounds, .bool corr, .int .i64 few] w fun e w' => ∃ sb rb lo gs off, (groupL 0 ps)[src]? = some gs ∧
      TreePost w.heap.size w ps.length lo rb sb ps (degN ps all prs) gs (shXs rb rounds src off corr few (fullB ps all prs)) (if corr then rounds - 1 else rounds) e w' := by
  obtain ⟨i27, hi27, hz270, hz271, hz272⟩ := info_parts Ybaf.kinfo27
  obtain ⟨ga, gc, g2, -⟩ := h.groups
  obtain ⟨pa, pc, p2⟩ := h.procs
  obtain ⟨gs, hgs⟩ : ∃ gs, (groupL 0 ps)[src]? = some gs := ⟨(groupL 0 ps)[src]'(by rw [groupL_length]; exact hsrc), List.getElem?_eq_getElem _⟩
  have hgsl : gs < ps.length := by
    have := groupL_lt ps 0 gs (List.mem_of_getElem? hgs)
    omega
  obtain ⟨lev, hlev⟩ : ∃ l, l = if corr then rounds - 1 else rounds := ⟨_, rfl⟩
  have HLV : Hid (lev = if corr then rounds - 1 else rounds) := hlev
  rw [← hlev]
  clear hlev
  have HF : Hid (F.answers w.tape) := hF
  have HN : Hid (NetAt w nb ps all prs) := h
  have HGS : Hid ((groupL 0 ps)[src]? = some gs) := hgs
  obtain ⟨g, hg⟩ : ∃ g, g = ps.length := ⟨_, rfl⟩
  obtain ⟨q, hq⟩ : ∃ q, q = ps.sum := ⟨_, rfl⟩
  obtain ⟨D, hDD⟩ : ∃ D, D = degN ps all prs := ⟨_, rfl⟩
  obtain ⟨fully, hfu⟩ : ∃ f, f = fullB ps all prs := ⟨_, rfl⟩
  have HG : Hid (g = ps.length) := hg
  have HQ : Hid (q = ps.sum) := hq
  have HDD : Hid (D = degN ps all prs) := hDD
  have HFU : Hid (fully = fullB ps all prs) := hfu
  have hlk := linkN_le ps all prs hp hprl
  have HLK := linkCount_any nb ps all prs
  obtain ⟨lk, hlke⟩ : ∃ l, l = linkN ps all prs := ⟨_, rfl⟩
  rw [← hlke] at hlk HLK
  unfold iv at HLK
  rw [← hg] at g2 hgsl
  have hD' : Hid (∀ a, D a ≤ 12) := by show _; rw [hDD]; exact hD.out
  rw [← hq] at p2
  rw [← hg, ← hDD, ← hfu]
  have hg4 : g ≤ 4 := by omega
  have hq12 : q ≤ 12 := by omega
  have hsq : src < q := by omega
  clear hlke hg hq hDD hfu h hgs hF
  have hb27 : i27.bytes * g ≤ 281474976710656 := by rw [hz272]; omega
  have hgm : g ≤ maxLen := by unfold maxLen; omega
  obtain ⟨RQ, hRQ⟩ : ∃ P, P = rounds * (q : Int) := ⟨_, rfl⟩
  have hRQb : 0 ≤ RQ ∧ RQ ≤ 48 := by
    rw [hRQ]
    obtain h | h | h | h | h : rounds = 0 ∨ rounds = 1 ∨ rounds = 2 ∨ rounds = 3 ∨ rounds = 4 := by omega
    all_goals (subst h; omega)
  have hw1 : IntKind.i64.wrap (rounds * (q : Int)) = RQ := by rw [← hRQ, IntKind.wrap_i64]; omega
  clear hRQ
  have hw2 : IntKind.i64.wrap (2 * (lk : Int)) = 2 * (lk : Int) := by rw [IntKind.wrap_i64]; omega
  have hw3 : IntKind.i64.wrap (RQ + 2 * (lk : Int)) = RQ + 2 * (lk : Int) := by rw [IntKind.wrap_i64]; omega
  have hgt : decide (268435456 < RQ + 2 * (lk : Int)) = false := decide_eq_false (by omega)
  have g0 := Goes.refl (Own.nil w w.heap.size) (Nat.le_refl _)
  go_enter Ybaf.func10, Ybaf.ntmps10
  go_upto_region 2 with (first | (go_at_call 13; refine (groups_any nb ga g gc w g2).mono ?_; rintro e w1 ⟨rfl, rfl⟩) | (go_at_call 14; refine (procs_any nb pa q pc w p2).mono ?_; rintro e w1 ⟨rfl, rfl⟩))
  go_upto_region 3 with (go_at_call 15; refine (errorf_map F _ (fun _ => by kernel_rfl) (q : Int) (g : Int) 268435456 w.heap.size _ (by show F.answers w.tape; exact HF.out) (news_alloc w [.iface 3 (.int .i64 (q : Int)), .iface 3 (.int .i64 (g : Int)), .iface 3 (.int .i64 268435456)] 20 0 _ rfl) (news_alloc w [.iface 3 (.int .i64 (q : Int)), .iface 3 (.int .i64 (g : Int)), .iface 3 (.int .i64 268435456)] 20 1 _ rfl) (news_alloc w [.iface 3 (.int .i64 (q : Int)), .iface 3 (.int .i64 (g : Int)), .iface 3 (.int .i64 268435456)] 20 2 _ rfl)).mono ?_; rintro e w2 ⟨v, rfl, hbl⟩)
  have G2 := (g0.alloc _).grown (Below.asGrown hbl)
  clear hbl
  go_upto_region 5 with (go_at_call 12; refine (HLK _ (HN.out.below G2.below) hp h1p).mono ?_; rintro e w3 ⟨rfl, rfl⟩)
  go_cut [15] (fun s15 wx => Sh5 w g q src ps D rounds few corr fully s15 wx)
  case first =>
    refine wp_region_noPanic ?_
    refine wp_region_till (by kernel_rfl) (fun _ => True) (fun _ => True) [] 13 rfl ?_
    have G3 := G2.drew
    obtain ⟨x0, hx0⟩ : ∃ W, W = w2.drew := ⟨_, rfl⟩
    rw [← hx0] at G3 ⊢
    clear hx0 G2
    refine till_take0 0 (some 54) (v := ?va0) rfl rfl (by kernel_rfl) (by kernel_rfl) (by kernel_rfl) (fun _ _ _ h => h) (Or.inl ⟨by rfl, ?ya0⟩) trivial ?ra0
    case ya0 => intro w' _; go_simp; all_goals with_reducible rfl
    simp only [Act.put, List.setIfInBounds_toArray, List.set_cons_zero, List.set_cons_succ]
    refine till_take0 2 (some 56) (v := ?va2) rfl rfl (by kernel_rfl) (by kernel_rfl) (by kernel_rfl) (fun _ _ _ h => h) (Or.inl ⟨by rfl, ?ya2⟩) trivial ?ra2
    case ya2 => intro w' _; go_simp; all_goals with_reducible rfl
    simp only [Act.put, List.setIfInBounds_toArray, List.set_cons_zero, List.set_cons_succ]
    refine till_take0 3 (some 57) (v := ?va3) rfl rfl (by kernel_rfl) (by kernel_rfl) (by kernel_rfl) (fun _ _ _ h => h) (Or.inl ⟨by rfl, ?ya3⟩) trivial ?ra3
    case ya3 => intro w' _; go_simp; all_goals with_reducible rfl
    simp only [Act.put, List.setIfInBounds_toArray, List.set_cons_zero, List.set_cons_succ]
    refine till_take0 4 (some 58) (v := ?va4) rfl rfl (by kernel_rfl) (by kernel_rfl) (by kernel_rfl) (fun _ _ _ h => h) (Or.inl ⟨by rfl, ?ya4⟩) trivial ?ra4
    case ya4 => intro w' _; go_simp; all_goals with_reducible rfl
    simp only [Act.put, List.setIfInBounds_toArray, List.set_cons_zero, List.set_cons_succ]
    refine till_take0 5 (some 59) (v := ?va5) rfl rfl (by kernel_rfl) (by kernel_rfl) (by kernel_rfl) (fun _ _ _ h => h) (Or.inl ⟨by rfl, ?ya5⟩) trivial ?ra5
    case ya5 => intro w' _; go_simp; all_goals with_reducible rfl
    simp only [Act.put, List.setIfInBounds_toArray, List.set_cons_zero, List.set_cons_succ]
    refine till_take0 7 (some 61) (v := ?va7) rfl rfl (by kernel_rfl) (by kernel_rfl) (by kernel_rfl) (fun _ _ _ h => h) (Or.inl ⟨by rfl, ?ya7⟩) trivial ?ra7
    case ya7 => intro w' _; go_simp; all_goals with_reducible rfl
    simp only [Act.put, List.setIfInBounds_toArray, List.set_cons_zero, List.set_cons_succ]
    refine till_take0 8 (some 62) (v := ?va8) rfl rfl (by kernel_rfl) (by kernel_rfl) (by kernel_rfl) (fun _ _ _ h => h) (Or.inl ⟨by rfl, ?ya8⟩) trivial ?ra8
    case ya8 => intro w' _; go_simp; all_goals with_reducible rfl
    simp only [Act.put, List.setIfInBounds_toArray, List.set_cons_zero, List.set_cons_succ]
    refine till_all (rs := [1, 6]) (by kernel_rfl) (by simp) ?_
    intro i hi
    have hi' : i = 1 ∨ i = 6 := by simpa using hi
    clear hi
    rcases hi' with rfl | rfl
    · refine ⟨_, rfl, rfl, fun K hK => ?_⟩
      go_simp
      refine (reach_any nb ps all prs x0 (HN.out.below G3.below) hp hps hpr hprl hD).mono ?_
      rintro e x1 ⟨rb, he, hra, hbl⟩
      subst he
      rw [← HDD.out] at hra
      have Gx1 := G3.grown (Below.asGrown hbl)
      have Rx1 : ReachL x0.heap.size x1 _ rb ps D := ReachL.of_lo hra G3.own.lts
      refine hK _ _ (.inr id) id ?_
      clear hK K hra hbl
      (try simp only [Act.put, List.setIfInBounds_toArray, List.set_cons_zero, List.set_cons_succ])
      refine till_all (rs := [6, 9]) (by kernel_rfl) (by simp) ?_
      intro i hi
      have hi' : i = 6 ∨ i = 9 := by simpa using hi
      clear hi
      rcases hi' with rfl | rfl
      · refine ⟨_, rfl, rfl, fun K hK => ?_⟩
        refine wp_make_full x1 (.tmp 59) (.tmp 59) 42 (some 60) rfl rfl w.heap.size 27 i27 (.slice none 0 0) 1 Ybaf.underlying42 hi27 hz270 hz271 g rfl rfl hb27 hgm Gx1.size ?_
        intro x2 r2 gr2
        rw [made_nil] at r2
        obtain ⟨fb, hfb⟩ : ∃ x, x = x1.heap.size := ⟨_, rfl⟩
        have Tx2 := (Goes.refl Gx1.own Gx1.size).cons (r := (rowOf 27 (.slice (some ⟨fb, 0, none⟩) g g) (List.replicate g (.slice none 0 0)))) (by rw [hfb]; unfold RowS.at rowOf; simpa using r2) gr2 (fun k hk => by simp [rowOf, Value.ownBlock] at hk; omega)
        have Gx2 := Gx1.trans Tx2
        have Rx2 := Rx1.goes Tx2
        refine hK _ _ (.inr id) id ?_
        rw [← hfb]
        clear hK K hfb r2 gr2 Tx2
        (try simp only [Act.put, List.setIfInBounds_toArray, List.set_cons_zero, List.set_cons_succ])
        refine till_one (i := 9) (by kernel_rfl) rfl rfl fun K hK => ?_
        go_simp
        refine (fully_any nb ps all prs x2 (HN.out.below Gx2.below) hp h1p).mono ?_
        rintro e w9 ⟨he, rfl⟩
        rw [← HFU.out] at he
        subst he
        refine hK _ _ (.inr id) id ?_
        clear hK K
        (try simp only [Act.put, List.setIfInBounds_toArray, List.set_cons_zero, List.set_cons_succ])
        refine till_take0 10 (some 64) (v := ?vp10) rfl rfl (by kernel_rfl) (by kernel_rfl) (by kernel_rfl) (fun _ _ _ h => h) (Or.inl ⟨by rfl, ?yp10⟩) trivial ?rp10
        case yp10 => intro w' _; go_simp; all_goals with_reducible rfl
        simp only [Act.put, List.setIfInBounds_toArray, List.set_cons_zero, List.set_cons_succ]
        obtain ⟨sb, hsb⟩ : ∃ x, x = x2.heap.size := ⟨_, rfl⟩
        have TB := (Goes.refl Gx2.own Gx2.size).cons (r := box 45 sb ((shXs rb rounds src (.slice (some ⟨fb, 0, none⟩) g g) corr few fully) (.slice none 0 0) (.slice none 0 0) (.slice none 0 0))) (by rw [hsb]; exact box_new x2 w.heap.size 45 ((shXs rb rounds src (.slice (some ⟨fb, 0, none⟩) g g) corr few fully) (.slice none 0 0) (.slice none 0 0) (.slice none 0 0)) Gx2.size) (World.grownBy_alloc _ _ none) (fun k hk => by simp [box, Value.ownBlock] at hk; omega)
        have GB := (Gx2.trans TB).swap2
        have RB := (Rx2.goes TB).goes (Goes.refl TB.own TB.size).swap2
        clear TB
        refine till_one (i := 11) (by kernel_rfl) rfl rfl fun K hK => ?_
        go_simp
        refine hK _ _ (.inr id) id ?_
        clear hK K
        refine till_take0 12 (some 15) (v := ?vp12) rfl rfl (by kernel_rfl) (by kernel_rfl) (by kernel_rfl) (fun _ _ _ h => h) (Or.inl ⟨by rfl, ?yp12⟩) trivial ?rp12
        case yp12 => intro w' _; go_simp; all_goals with_reducible rfl
        simp only [Act.put, List.setIfInBounds_toArray, List.set_cons_zero, List.set_cons_succ]
        refine till_done (by kernel_rfl) ?_ _
        refine NoPanic.normal ?_
        go_wp2_with fail
        go_meet
        exact ⟨sb, rb, fb, _, by rw [hsb], GB, RB⟩
      · refine ⟨_, rfl, rfl, fun K hK => ?_⟩
        go_simp
        refine (fully_any nb ps all prs x1 (HN.out.below Gx1.below) hp h1p).mono ?_
        rintro e w9 ⟨he, rfl⟩
        rw [← HFU.out] at he
        subst he
        refine hK _ _ (.inr id) id ?_
        clear hK K
        (try simp only [Act.put, List.setIfInBounds_toArray, List.set_cons_zero, List.set_cons_succ])
        refine till_one (i := 6) (by kernel_rfl) rfl rfl fun K hK => ?_
        refine wp_make_full x1 (.tmp 59) (.tmp 59) 42 (some 60) rfl rfl w.heap.size 27 i27 (.slice none 0 0) 1 Ybaf.underlying42 hi27 hz270 hz271 g rfl rfl hb27 hgm Gx1.size ?_
        intro x2 r2 gr2
        rw [made_nil] at r2
        obtain ⟨fb, hfb⟩ : ∃ x, x = x1.heap.size := ⟨_, rfl⟩
        have Tx2 := (Goes.refl Gx1.own Gx1.size).cons (r := (rowOf 27 (.slice (some ⟨fb, 0, none⟩) g g) (List.replicate g (.slice none 0 0)))) (by rw [hfb]; unfold RowS.at rowOf; simpa using r2) gr2 (fun k hk => by simp [rowOf, Value.ownBlock] at hk; omega)
        have Gx2 := Gx1.trans Tx2
        have Rx2 := Rx1.goes Tx2
        refine hK _ _ (.inr id) id ?_
        rw [← hfb]
        clear hK K hfb r2 gr2 Tx2
        (try simp only [Act.put, List.setIfInBounds_toArray, List.set_cons_zero, List.set_cons_succ])
        refine till_take0 10 (some 64) (v := ?vq10) rfl rfl (by kernel_rfl) (by kernel_rfl) (by kernel_rfl) (fun _ _ _ h => h) (Or.inl ⟨by rfl, ?yq10⟩) trivial ?rq10
        case yq10 => intro w' _; go_simp; all_goals with_reducible rfl
        simp only [Act.put, List.setIfInBounds_toArray, List.set_cons_zero, List.set_cons_succ]
        obtain ⟨sb, hsb⟩ : ∃ x, x = x2.heap.size := ⟨_, rfl⟩
        have TB := (Goes.refl Gx2.own Gx2.size).cons (r := box 45 sb ((shXs rb rounds src (.slice (some ⟨fb, 0, none⟩) g g) corr few fully) (.slice none 0 0) (.slice none 0 0) (.slice none 0 0))) (by rw [hsb]; exact box_new x2 w.heap.size 45 ((shXs rb rounds src (.slice (some ⟨fb, 0, none⟩) g g) corr few fully) (.slice none 0 0) (.slice none 0 0) (.slice none 0 0)) Gx2.size) (World.grownBy_alloc _ _ none) (fun k hk => by simp [box, Value.ownBlock] at hk; omega)
        have GB := (Gx2.trans TB).swap2
        have RB := (Rx2.goes TB).goes (Goes.refl TB.own TB.size).swap2
        clear TB
        refine till_one (i := 11) (by kernel_rfl) rfl rfl fun K hK => ?_
        go_simp
        refine hK _ _ (.inr id) id ?_
        clear hK K
        refine till_take0 12 (some 15) (v := ?vq12) rfl rfl (by kernel_rfl) (by kernel_rfl) (by kernel_rfl) (fun _ _ _ h => h) (Or.inl ⟨by rfl, ?yq12⟩) trivial ?rq12
        case yq12 => intro w' _; go_simp; all_goals with_reducible rfl
        simp only [Act.put, List.setIfInBounds_toArray, List.set_cons_zero, List.set_cons_succ]
        refine till_done (by kernel_rfl) ?_ _
        refine NoPanic.normal ?_
        go_wp2_with fail
        go_meet
        exact ⟨sb, rb, fb, _, by rw [hsb], GB, RB⟩
    · refine ⟨_, rfl, rfl, fun K hK => ?_⟩
      refine wp_make_full x0 (.tmp 59) (.tmp 59) 42 (some 60) rfl rfl w.heap.size 27 i27 (.slice none 0 0) 1 Ybaf.underlying42 hi27 hz270 hz271 g rfl rfl hb27 hgm G3.size ?_
      intro x1 r2 gr2
      rw [made_nil] at r2
      obtain ⟨fb, hfb⟩ : ∃ x, x = x0.heap.size := ⟨_, rfl⟩
      have Tx1 := (Goes.refl G3.own G3.size).cons (r := (rowOf 27 (.slice (some ⟨fb, 0, none⟩) g g) (List.replicate g (.slice none 0 0)))) (by rw [hfb]; unfold RowS.at rowOf; simpa using r2) gr2 (fun k hk => by simp [rowOf, Value.ownBlock] at hk; omega)
      have Gx1 := G3.trans Tx1
      refine hK _ _ (.inr id) id ?_
      rw [← hfb]
      clear hK K hfb r2 gr2 Tx1
      (try simp only [Act.put, List.setIfInBounds_toArray, List.set_cons_zero, List.set_cons_succ])
      refine till_one (i := 1) (by kernel_rfl) rfl rfl fun K hK => ?_
      go_simp
      refine (reach_any nb ps all prs x1 (HN.out.below Gx1.below) hp hps hpr hprl hD).mono ?_
      rintro e x2 ⟨rb, he, hra, hbl⟩
      subst he
      rw [← HDD.out] at hra
      have Gx2 := Gx1.grown (Below.asGrown hbl)
      have Rx2 : ReachL x1.heap.size x2 _ rb ps D := ReachL.of_lo hra Gx1.own.lts
      refine hK _ _ (.inr id) id ?_
      clear hK K hra hbl
      (try simp only [Act.put, List.setIfInBounds_toArray, List.set_cons_zero, List.set_cons_succ])
      refine till_one (i := 9) (by kernel_rfl) rfl rfl fun K hK => ?_
      go_simp
      refine (fully_any nb ps all prs x2 (HN.out.below Gx2.below) hp h1p).mono ?_
      rintro e w9 ⟨he, rfl⟩
      rw [← HFU.out] at he
      subst he
      refine hK _ _ (.inr id) id ?_
      clear hK K
      (try simp only [Act.put, List.setIfInBounds_toArray, List.set_cons_zero, List.set_cons_succ])
      refine till_take0 10 (some 64) (v := ?vr10) rfl rfl (by kernel_rfl) (by kernel_rfl) (by kernel_rfl) (fun _ _ _ h => h) (Or.inl ⟨by rfl, ?yr10⟩) trivial ?rr10
      case yr10 => intro w' _; go_simp; all_goals with_reducible rfl
      simp only [Act.put, List.setIfInBounds_toArray, List.set_cons_zero, List.set_cons_succ]
      obtain ⟨sb, hsb⟩ : ∃ x, x = x2.heap.size := ⟨_, rfl⟩
      have TB := (Goes.refl Gx2.own Gx2.size).cons (r := box 45 sb ((shXs rb rounds src (.slice (some ⟨fb, 0, none⟩) g g) corr few fully) (.slice none 0 0) (.slice none 0 0) (.slice none 0 0))) (by rw [hsb]; exact box_new x2 w.heap.size 45 ((shXs rb rounds src (.slice (some ⟨fb, 0, none⟩) g g) corr few fully) (.slice none 0 0) (.slice none 0 0) (.slice none 0 0)) Gx2.size) (World.grownBy_alloc _ _ none) (fun k hk => by simp [box, Value.ownBlock] at hk; omega)
      have GB := (Gx2.trans TB).swap2
      have RB := (Rx2.goes TB).goes (Goes.refl TB.own TB.size).swap2
      clear TB
      refine till_one (i := 11) (by kernel_rfl) rfl rfl fun K hK => ?_
      go_simp
      refine hK _ _ (.inr id) id ?_
      clear hK K
      refine till_take0 12 (some 15) (v := ?vr12) rfl rfl (by kernel_rfl) (by kernel_rfl) (by kernel_rfl) (fun _ _ _ h => h) (Or.inl ⟨by rfl, ?yr12⟩) trivial ?rr12
      case yr12 => intro w' _; go_simp; all_goals with_reducible rfl
      simp only [Act.put, List.setIfInBounds_toArray, List.set_cons_zero, List.set_cons_succ]
      refine till_done (by kernel_rfl) ?_ _
      refine NoPanic.normal ?_
      go_wp2_with fail
      go_meet
      exact ⟨sb, rb, fb, _, by rw [hsb], GB, RB⟩
  case rest =>
    obtain ⟨sb, rb, fb, lo, rfl, GS, RS⟩ := hcut
    rename_i KK hKK
    refine hKK _ _ ?_
    refine Code.wp_mono ?_ (shape_mid w.heap.size nb src sb rb g q lo gs fb ps D rounds few lev corr fully w _ _ _ _ _ _ _ _ _ _ _ _ _ _ _ _ _ _ _ _ _ _ _ _ _ _ _ _ _ _ _ _ _ _ _ _ _ _ _ _ _ _ _ _ _ _ _ _ _ _ _ _ _ _ _ _ _ _ _ _ _ _ _ _ _ _ _ _ _ _ _ _ _ _ _ _ _ _ _ _ _ _ _ _ _ _ _ _ _ _ _ _ _ _ _ _ _ _ _ _ _ _ _ _ _ _ _ _ _ _ _ _ _ _ _ _ _ _ _ _ _ _ _ _ _ _ _ _ _ _ _ _ _ _ _ _ _ _ _ _ _ _ _ _ _ _ _ _ _ _ _ _ _ _ _ _ _ _ _ _ _ _ _ _ _ _ _ _ _ _ _ _ _ _ _ _ _ _ _ _ _ _ _ _ _ _ _ _ _ _ _ _ _ _ _ _ _ _ _ _ _ _ _ _ _ _ _ _ _ _ _ _ _ _ _ _ _ _ _ _ _ _ _ _ _ _ _ _ _ _ _ _ _ _ _ _ _ _ _ _ _ _ _ _ _ _ _ _ _ _ _ _ _ _ _ _ _ _ _ _ _ _ _ _ _ _ _ _ _ _ _ _ _ _ _ _ _ _ _ _ _ _ _ _ _ _ _ HG hg4 HQ hq12 hsq hD' hrd HGS hgsl HLV GS RS)
    exact bodyPost_mono fun e w' hh => ⟨sb, rb, lo, gs, _, HGS.out, hh⟩

end YbulkaxksFmt
end Go.Proofs
