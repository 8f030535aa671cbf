/-
  The law's builder.
-/
import Derived.Test.YbulkaxksFmtBd1
set_option linter.unusedVariables false
set_option linter.unusedSimpArgs false
namespace Go.Proofs
open Go.RowKit
namespace YbulkaxksFmt

set_option maxRecDepth 1000000 in
set_option maxHeartbeats 2000000 in
theorem build_any (G : Int) (sa : Option Addr) (zs : List Int) (zc : Nat) (all : Bool) (mask hh sr bg cn fg fu fl r0 r1 r2 r3 : Int) (w : World)
    (hG : 0 ≤ G ∧ G ≤ 255) (hm : 0 ≤ mask ∧ mask ≤ 255) (hz : Hid (∀ j (hj : j < zs.length), ∃ b off, sa = some ⟨b, off, none⟩ ∧ b < w.heap.size ∧ w.cell? ⟨b, off + j, none⟩ = some (.int .u8 zs[j]))) (hzb : Hid (∀ z ∈ zs, 0 ≤ z ∧ z ≤ 255)) :
    Calls Ybaf.prog 5 #[.agg (inXs G (.slice sa zs.length zc) all mask hh sr bg cn fg fu fl r0 r1 r2 r3)] w (BuildPost w.heap.size w zs (1 + (G % 4).toNat) all) := by
  obtain ⟨i3, hi3, hz30, hz31, hz32⟩ := info_parts Ybaf.kinfo3
  obtain ⟨i9, hi9, hz90, hz91, hz92⟩ := info_parts Ybaf.kinfo9
  obtain ⟨i57, hi57, hz570, hz571, hz572⟩ := info_parts Ybaf.kinfo57
  obtain ⟨g, hg⟩ : ∃ g, g = 1 + (G % 4).toNat := ⟨_, rfl⟩
  have hwg : IntKind.i64.wrap (1 + G % 4) = (g : Int) := by rw [IntKind.wrap_i64]; omega
  have hg4 : 1 ≤ g ∧ g ≤ 4 := by omega
  rw [← hg]
  clear hg
  obtain ⟨zn, hzn⟩ : ∃ n, n = zs.length := ⟨_, rfl⟩
  have HZN : Hid (zn = zs.length) := hzn
  rw [← hzn]
  clear hzn
  obtain ⟨B, hB⟩ : ∃ B, B = w.heap.size := ⟨_, rfl⟩
  have HB : Hid (B = w.heap.size) := hB
  have g0 := Goes.refl (Own.nil w B) (by omega)
  unfold inXs
  go_enter Ybaf.func5, Ybaf.ntmps5
  go_upto_region 5 with fail
  obtain ⟨ins, hins⟩ : ∃ l, l = (inXs G (.slice sa zn zc) all mask hh sr bg cn fg fu fl r0 r1 r2 r3).toList := ⟨_, rfl⟩
  have HINS : Hid (ins = (inXs G (.slice sa zn zc) all mask hh sr bg cn fg fu fl r0 r1 r2 r3).toList) := hins
  have G1 := g0.cons (r := box 25 w.heap.size ins) (box_new w B 25 ins (by omega)) (World.grownBy_alloc _ _ none) (fun k hk => by simp [box, Value.ownBlock] at hk; omega)
  rw [hins] at G1
  obtain ⟨x1, hx1⟩ : ∃ W, W = w.alloc (.cells ins.toArray 25) := ⟨_, rfl⟩
  have hx1' := hx1
  rw [hins] at hx1'
  rw [← hx1'] at G1
  rw [← hins] at G1
  obtain ⟨x2, hx2⟩ : ∃ W, W = x1.alloc (.cells (nwXs (.slice none 0 0) (.slice none 0 0) false (.map none) (.slice none 0 0)).toArray 55) := ⟨_, rfl⟩
  have G2 := G1.cons (r := box 55 x1.heap.size (nwXs (.slice none 0 0) (.slice none 0 0) false (.map none) (.slice none 0 0))) (box_new x1 B 55 _ G1.size) (World.grownBy_alloc _ _ none) (fun k hk => by simp [box, Value.ownBlock] at hk; omega)
  rw [← hx2] at G2
  have G3 := (G2.nilRow 9).cons (r := ⟨57, 3, .slice none 0 0, 0, []⟩) ⟨rfl, .inl ⟨rfl, rfl⟩⟩ (World.grownBy.refl _ none) (fun k hk => by simp [Value.ownBlock] at hk)
  have G4 := G3.cons (r := rowOf 3 (.slice (some ⟨x2.heap.size, 0, none⟩) 0 0) []) (w2 := x2.alloc (.cells #[] 3)) ⟨rfl, .inr ⟨x2.heap.size, 0, #[], (0, 0), rfl, G2.size, heap_alloc_new x2 _, .inl rfl, Nat.le_refl _, by decide, rfl, rfl⟩⟩ (World.grownBy_alloc _ _ none) (fun k hk => by simp [rowOf, Value.ownBlock] at hk; omega)
  obtain ⟨x3, hx3⟩ : ∃ W, W = x2.alloc (.cells #[] 3) := ⟨_, rfl⟩
  rw [← hx3] at G4
  have s1 : x1.heap.size = w.heap.size + 1 := by rw [hx1]; simp
  have s2 : x2.heap.size = w.heap.size + 1 + 1 := by rw [hx2, ← s1]; simp
  rw [s1, s2] at G4
  have ew : (((w.alloc (Obj.cells #[Value.int IntKind.u8 G, Value.slice sa zn zc, Value.bool all, Value.int IntKind.u8 mask, Value.int IntKind.u8 hh, Value.int IntKind.u8 sr, Value.int IntKind.i8 bg, Value.int IntKind.i8 cn, Value.int IntKind.i8 fg, Value.int IntKind.i8 fu, Value.int IntKind.i8 fl, Value.int IntKind.u8 r0, Value.int IntKind.u8 r1, Value.int IntKind.u8 r2, Value.int IntKind.u8 r3] 25)).alloc (Obj.cells #[Value.string ⟨#[]⟩, Value.int .u8 0, Value.slice none 0 0, Value.map none, Value.slice none 0 0, Value.map none, Value.bool false, Value.map none, Value.slice none 0 0] 55)).alloc (Obj.cells #[] 3)) = x3 := by
    rw [hx3, hx2, hx1, hins]; rfl
  obtain ⟨ib, hib⟩ : ∃ b, b = w.heap.size := ⟨_, rfl⟩
  obtain ⟨nb, hnb⟩ : ∃ b, b = w.heap.size + 1 := ⟨_, rfl⟩
  have R0 : Hid (BRel B w nb ib ins zs 0 (groupL 0 (psOf zs 0)) (.slice (some ⟨w.heap.size + 1 + 1, 0, none⟩) 0 0) x3) := ⟨.slice none 0 0, .slice none 0 0, [], ⟨rfl, fun j hj => absurd hj (by simp [psOf])⟩, by rw [hib, hnb]; exact G4⟩
  rw [ew, ← hnb, ← hib]
  rw [← hnb] at R0
  clear ew hx1 hx1' hx2 hx3 G1 G2 G3 G4 s1 s2 hib hins g0 hnb hB
  go_loopw [7, 8] (fun a b wr => ∃ (i : Nat), i ≤ g ∧ b = .int .i64 (i : Int) ∧ Hid (BRel B w nb ib ins zs i (groupL 0 (psOf zs i)) a wr)) (fun _ b _ => g - (intOf b).toNat)
  case atStart => exact ⟨0, Nat.zero_le _, rfl, R0⟩
  case round =>
    clear R0
    obtain ⟨i, hig, rfl, HC⟩ := hrel
    by_cases hlt : i < g
    · have hii : (i : Int) < (g : Int) := by omega
      obtain ⟨grv, pv, gxs, hgr, gW⟩ := HC.out
      have HGR : Hid (GrOk (psOf zs i) gxs) := hgr
      obtain ⟨GL, hGL⟩ : ∃ l, l = groupL 0 (psOf zs i) := ⟨_, rfl⟩
      obtain ⟨pn, hpn⟩ : ∃ l, l = (psOf zs i).sum := ⟨_, rfl⟩
      rw [← hGL, ← hpn] at gW
      have HGL : Hid (GL = groupL 0 (psOf zs i)) := hGL
      have HPN : Hid (pn = (psOf zs i).sum) := hpn
      have hpn12 : pn ≤ 9 := by have := (psOf_sum zs i).2; omega
      have hGLl : GL.length = pn := by rw [hGL, hpn, groupL_length]
      have HGLl : Hid (GL.length = pn) := hGLl
      have hsz := szAt_le zs i
      obtain ⟨p, hp⟩ : ∃ p, p = szAt zs i := ⟨_, rfl⟩
      rw [← hp] at hsz
      have HP : Hid (p = szAt zs i) := hp
      obtain ⟨gra, grc, hgrf⟩ := (show RowM wr B 57 3 grv i gxs from gW.own.get 1 rfl).form
      subst hgrf
      obtain ⟨pva, pvc, hpvf⟩ := (show RowM wr B 9 1 pv pn (List.replicate pn (.string ⟨#[]⟩)) from gW.own.get 2 rfl).form
      subst hpvf
      clear hGL hpn hp hgr HC hGLl
      have y1 : wr.cell? ⟨ib, 1, none⟩ = some (.slice sa zn zc) := gW.own.box_cell 4 rfl 1 (by rw [HINS.out]; rfl)
      go_upto_if 34 with fail
      go_cut [9] (fun s9 wx => s9 = .int .i64 (p : Int) ∧ wr = wx)
      case first =>
        by_cases hi : i < zn
        · have hii2 : (i : Int) < (zn : Int) := by omega
          obtain ⟨zb, zo, rfl, hzlt, cz⟩ := hz.out i (by have := HZN.out; omega)
          obtain ⟨z, hzz⟩ : ∃ z, z = zs[i]'(by have := HZN.out; omega) := ⟨_, rfl⟩
          have hzr : 0 ≤ z ∧ z ≤ 255 := by rw [hzz]; exact hzb.out _ (List.getElem_mem _)
          rw [← hzz] at cz
          have cz' : wr.cell? ⟨zb, zo + i, none⟩ = some (.int .u8 z) := (gW.below.cell (by have := HB.out; show zb < B; omega)).trans cz
          have hpz : (p : Int) = 1 + z % 3 := by
            rw [HP.out]
            unfold szAt
            rw [dif_pos (by have := HZN.out; omega), ← hzz]
            push_cast
            omega
          have hwp : IntKind.i64.wrap (1 + z % 3) = (p : Int) := by rw [IntKind.wrap_i64]; omega
          clear hzz cz
          go_wp2_with fail
          go_meet
          exact ⟨by rw [hpz], rfl⟩
        · have hii2 : decide ((i : Int) < (zn : Int)) = false := decide_eq_false (by omega)
          have hpz : p = 1 := by
            rw [HP.out]
            unfold szAt
            rw [dif_neg (by have := HZN.out; omega)]
          go_wp2_with fail
          go_meet
          exact ⟨by rw [hpz]; rfl, rfl⟩
      case rest =>
        obtain ⟨rfl, rfl⟩ := hcut
        clear y1
        go_wp2_with fail
        refine wp_region_noPanic ?_
        refine wp_region_till (by kernel_rfl) (fun W => W.cell? ⟨nb, 2, none⟩ = some (.slice gra i grc)) (fun _ => True) [12] 13 rfl ?_
        have GD := gW.drew
        obtain ⟨wd, hwd⟩ : ∃ W, W = wr.drew := ⟨_, rfl⟩
        rw [← hwd] at GD ⊢
        clear hwd gW
        have hS : wd.cell? ⟨nb, 2, none⟩ = some (.slice gra i grc) := GD.own.box_cell 3 rfl 2 rfl
        refine till_take0 0 (some 43) (v := ?va0) rfl rfl (by kernel_rfl) (by kernel_rfl) (by kernel_rfl) (fun _ _ _ h => h) (Or.inl ⟨by rfl, ?ya0⟩) trivial ?ra0
        case ya0 => intro w' _; go_simp; all_goals with_reducible rfl
        simp only [Act.put, List.setIfInBounds_toArray, List.set_cons_zero, List.set_cons_succ]
        refine till_take0 1 (some 44) (v := ?va1) rfl rfl (by kernel_rfl) (by kernel_rfl) (by kernel_rfl) (fun _ _ _ h => h) (Or.inl ⟨by rfl, ?ya1⟩) trivial ?ra1
        case ya1 => intro w' _; go_simp; all_goals with_reducible rfl
        simp only [Act.put, List.setIfInBounds_toArray, List.set_cons_zero, List.set_cons_succ]
        refine till_take0 2 (some 45) (v := ?va2) rfl rfl (by kernel_rfl) (by kernel_rfl) (by kernel_rfl) (fun _ _ _ h => h) (Or.inl ⟨by rfl, ?ya2⟩) trivial ?ra2
        case ya2 => intro w' _; go_simp; all_goals with_reducible rfl
        simp only [Act.put, List.setIfInBounds_toArray, List.set_cons_zero, List.set_cons_succ]
        refine till_take0 3 (some 46) (v := ?va3) rfl rfl (by kernel_rfl) (by kernel_rfl) (by kernel_rfl) (fun _ _ _ h => h) (Or.inl ⟨by rfl, ?ya3⟩) trivial ?ra3
        case ya3 => intro w' _; go_simp; all_goals with_reducible rfl
        simp only [Act.put, List.setIfInBounds_toArray, List.set_cons_zero, List.set_cons_succ]
        refine till_take 4 (some 47) (v := ?va4) rfl rfl (by kernel_rfl) (by kernel_rfl) (by kernel_rfl) (by kernel_rfl) (fun _ _ _ h => h) (Or.inl ⟨by rfl, ?ya4⟩) hS ?ra4
        case ya4 => intro w' t1; go_simp; all_goals with_reducible rfl
        simp only [Act.put, List.setIfInBounds_toArray, List.set_cons_zero, List.set_cons_succ]
        refine till_take0 5 (some 48) (v := ?va5) rfl rfl (by kernel_rfl) (by kernel_rfl) (by kernel_rfl) (fun _ _ _ h => h) (Or.inl ⟨by rfl, ?ya5⟩) trivial ?ra5
        case ya5 => intro w' _; go_simp; all_goals with_reducible rfl
        simp only [Act.put, List.setIfInBounds_toArray, List.set_cons_zero, List.set_cons_succ]
        have hb9 : i9.bytes * p ≤ 281474976710656 := by rw [hz92]; omega
        have hpm : p ≤ maxLen := by unfold maxLen; omega
        refine till_one (i := 6) (by kernel_rfl) rfl rfl fun K hK => ?_
        refine wp_make_full wd (.tmp 48) (.tmp 48) 51 (some 49) rfl rfl B 9 i9 (.string ⟨#[]⟩) 1 Ybaf.underlying51 hi9 hz90 hz91 p rfl rfl hb9 hpm GD.size ?_
        intro w1 r1 gr1
        have G1 := GD.grown gr1
        obtain ⟨sb, hsb⟩ : ∃ x, x = wd.heap.size := ⟨_, rfl⟩
        have hS1 : w1.cell? ⟨nb, 2, none⟩ = some (.slice gra i grc) := G1.own.box_cell 3 rfl 2 rfl
        refine hK _ _ (.inr (fun _ => hS1)) id ?_
        rw [← hsb]
        clear hK K hsb r1 gr1 hS GD
        (try simp only [Act.put, List.setIfInBounds_toArray, List.set_cons_zero, List.set_cons_succ])
        refine till_take0 7 (some 50) (v := ?vb7) rfl rfl (by kernel_rfl) (by kernel_rfl) (by kernel_rfl) (fun _ _ _ h => h) (Or.inl ⟨by rfl, ?yb7⟩) trivial ?rb7
        case yb7 => intro w' _; go_simp; all_goals with_reducible rfl
        simp only [Act.put, List.setIfInBounds_toArray, List.set_cons_zero, List.set_cons_succ]
        refine till_one (i := 8) (by kernel_rfl) rfl rfl fun K hK => ?_
        go_simp
        refine hK _ _ (.inr (fun _ => cell_old hS1 _)) id ?_
        clear hK K
        (try simp only [Act.put, List.setIfInBounds_toArray, List.set_cons_zero, List.set_cons_succ])
        obtain ⟨w2, hw2⟩ : ∃ W, W = w1.alloc (.cells ([.string ⟨#[]⟩, .string ⟨#[]⟩, .slice (some ⟨sb, 0, none⟩) p p]).toArray 57) := ⟨_, rfl⟩
        have G2 := G1.alloc (.cells ([.string ⟨#[]⟩, .string ⟨#[]⟩, .slice (some ⟨sb, 0, none⟩) p p]).toArray 57)
        have nw2 := news_alloc w1 ([.string ⟨#[]⟩, .string ⟨#[]⟩, .slice (some ⟨sb, 0, none⟩) p p]) 57
        obtain ⟨kb, hkb⟩ : ∃ x, x = w1.heap.size := ⟨_, rfl⟩
        rw [← hw2] at G2 nw2
        rw [← hkb] at nw2
        have ew2 : w1.alloc (Obj.cells #[Value.string { data := #[] }, Value.string { data := #[] }, Value.slice (some { block := sb, off := 0 }) p p] 57) = w2 := by rw [hw2]
        rw [ew2, ← hkb]
        clear ew2 hw2 hkb hS1 G1
        refine till_one (i := 9) (by kernel_rfl) rfl rfl fun K hK => ?_
        refine wp_append_rowK w2 rfl (.tmp 47) (.tmp 51) 49 49 rfl B 57 i57 (.agg #[.string ⟨#[]⟩, .string ⟨#[]⟩, .slice none 0 0]) 3 56 Ybaf.underlying49 hi57 hz570 hz571 hz572 rfl (.slice gra i grc) i gxs rfl (G2.own.get 1 rfl) _ 1 [.string ⟨#[]⟩, .string ⟨#[]⟩, .slice (some ⟨sb, 0, none⟩) p p] rfl (Src.ofSlice (P := Ybaf.prog) (size := 3) w2 Ybaf.underlying49 ⟨kb, 0, none⟩ 1 1 [.string ⟨#[]⟩, .string ⟨#[]⟩, .slice (some ⟨sb, 0, none⟩) p p] rfl nw2 (by intro u hu; simp at hu; rcases hu with rfl | rfl <;> rfl)) (max_ok (by omega)) (bytes_ok (by omega) (by decide)) G2.size ?_
        intro v3 w3 h1 h2 h3 h4 h5
        have G3 := G2.pushR 1 rfl h1 h2 h3 h4 (fun h => absurd h (by decide))
        obtain ⟨g3a, g3c, hf3⟩ := h1.form
        subst hf3
        have hS3 : w3.cell? ⟨nb, 2, none⟩ = some (.slice gra i grc) := G3.own.box_cell 3 rfl 2 rfl
        have hF3 : w3.frozen? ⟨nb, 2, none⟩ = false := G3.own.box_frozen 3 rfl 2 (by simp [nwXs])
        refine hK _ _ (.inr (fun _ => hS3)) id ?_
        clear hK K h1 h2 h3 h4 h5 nw2 G2
        (try simp only [Act.put, List.setIfInBounds_toArray, List.set_cons_zero, List.set_cons_succ])
        refine till_take0 10 (some 53) (v := ?vc10) rfl rfl (by kernel_rfl) (by kernel_rfl) (by kernel_rfl) (fun _ _ _ h => h) (Or.inl ⟨by rfl, ?yc10⟩) trivial ?rc10
        case yc10 => intro w' _; go_simp; all_goals with_reducible rfl
        simp only [Act.put, List.setIfInBounds_toArray, List.set_cons_zero, List.set_cons_succ]
        refine till_take0 11 (some 54) (v := ?vc11) rfl rfl (by kernel_rfl) (by kernel_rfl) (by kernel_rfl) (fun _ _ _ h => h) (Or.inl ⟨by rfl, ?yc11⟩) trivial ?rc11
        case yc11 => intro w' _; go_simp; all_goals with_reducible rfl
        simp only [Act.put, List.setIfInBounds_toArray, List.set_cons_zero, List.set_cons_succ]
        have G4 := G3.setBox 3 rfl (by decide) 2 (by simp [nwXs]) (.slice g3a (i + 1) g3c)
        refine till_one (i := 12) (by kernel_rfl) rfl rfl fun K hK => ?_
        go_simp
        refine hK _ _ (.inl (by simp)) id ?_
        clear hK K
        refine till_done (by kernel_rfl) ?_ _
        refine NoPanic.normal ?_
        obtain ⟨w4, hw4⟩ : ∃ W, W = w3.setCell ⟨nb, 2, none⟩ (.slice g3a (i + 1) g3c) := ⟨_, rfl⟩
        obtain ⟨gx2, hgx2⟩ : ∃ l, l = gxs ++ [.string ⟨#[]⟩, .string ⟨#[]⟩, .slice (some ⟨sb, 0, none⟩) p p] := ⟨_, rfl⟩
        have HGX : Hid (GrOk (psOf zs (i + 1)) gx2) := by show _; rw [psOf_succ, hgx2, ← HP.out]; exact HGR.out.snoc
        have gY : Goes B w [] w4 (BL nb ib ins false (.map none) (.slice none 0 0) u7 (.slice g3a (i + 1) g3c) (.slice pva pn pvc) GL (i + 1) pn gx2) := by rw [hw4, hgx2]; exact G4
        rw [← hw4]
        clear hw4 hgx2 G4 G3 hS3 hF3 HGR
        have z4 : w4.cell? ⟨nb, 4, none⟩ = some (.slice pva pn pvc) := gY.own.box_cell 3 rfl 4 rfl
        have hr2 : RowM w4 B 9 1 (.slice pva pn pvc) pn (List.replicate pn (.string ⟨#[]⟩)) := gY.own.get 2 rfl
        have hone : ∀ u ∈ List.replicate p (Value.string ⟨#[]⟩), u.oneCell' = true := fun u hu => by rw [List.mem_replicate] at hu; rw [hu.2]; rfl
        have hbz : pn + p ≤ 100000000 := by omega
        have hp0 : ¬ p * 1 = 0 := by omega
        go_upto_region 12 with (at_builtin; refine wpList_append_rowZ w4 rfl (.tmp 59) (.tmp 60) 51 3 rfl B 9 i9 (.string ⟨#[]⟩) 1 16 Ybaf.underlying51 Ybaf.underlying3 hi9 hz90 hz91 hz92 rfl (.slice pva pn pvc) pn (List.replicate pn (.string ⟨#[]⟩)) rfl hr2 p (List.replicate p (.string ⟨#[]⟩)) rfl (zero_strings p) hp0 hone (max_ok hbz) (bytes_ok hbz (by decide)) gY.size ?_; intro pv2 w5 h1 h2 h3 h4 h5; obtain ⟨pva2, pvc2, hf5⟩ := h1.form; subst hf5; have G5 := gY.pushR 2 rfl h1 h2 h3 (by simpa using h4) (fun _ => rfl); have z5 := G5.own.box_cell 3 rfl 4 rfl; have f5 := G5.own.box_frozen 3 rfl 4 (by simp [nwXs]); have G6 := G5.setBox 3 rfl (by decide) 4 (by simp [nwXs]) (.slice pva2 (pn + p) pvc2); clear h1 h2 h3 h4 h5 z4 hr2)
        obtain ⟨w6, hw6⟩ : ∃ W, W = w5.setCell ⟨nb, 4, none⟩ (.slice pva2 (pn + p) pvc2) := ⟨_, rfl⟩
        have R6 : Hid (BRel B w nb ib ins zs (i + 1) GL u7 w6) := by
          refine ⟨.slice g3a (i + 1) g3c, .slice pva2 (pn + p) pvc2, gx2, HGX.out, ?_⟩
          have e1 : (psOf zs (i + 1)).sum = pn + p := by rw [psOf_succ, List.sum_append, ← HPN.out, ← HP.out]; simp
          rw [e1, hw6]
          have e2 : List.replicate pn (Value.string ⟨#[]⟩) ++ List.replicate p (.string ⟨#[]⟩) = List.replicate (pn + p) (.string ⟨#[]⟩) := List.replicate_append_replicate
          have G7 := G6
          rw [e2] at G7
          have e3 : BL nb ib ins false (.map none) (.slice none 0 0) u7 (.slice g3a (i + 1) g3c) (.slice pva2 (pn + p) pvc2) GL (i + 1) (pn + p) gx2 = ((BL nb ib ins false (.map none) (.slice none 0 0) u7 (.slice g3a (i + 1) g3c) (.slice pva pn pvc) GL (i + 1) pn gx2).set 2 ⟨9, 1, .slice pva2 (pn + p) pvc2, pn + p, List.replicate (pn + p) (.string ⟨#[]⟩)⟩).set 3 (box 55 nb ((nwXs (.slice g3a (i + 1) g3c) (.slice pva pn pvc) false (.map none) (.slice none 0 0)).set 4 (.slice pva2 (pn + p) pvc2))) := by
            rfl
          rw [e3]
          exact G7
        rw [← hw6]
        clear hw6 G5 G6 z5 f5 gY HGX
        go_wp2_with fail
        go_loopw [7, 10] (fun a b wr => ∃ (k : Nat), k ≤ p ∧ b = .int .i64 (k : Int) ∧ Hid (BRel B w nb ib ins zs (i + 1) (GL ++ List.replicate k i) a wr)) (fun _ b _ => p - (intOf b).toNat)
        case atStart => exact ⟨0, Nat.zero_le _, rfl, by simpa using R6⟩
        case round =>
          clear R6
          obtain ⟨k, hkp, rfl, HC⟩ := hrel
          by_cases hkl : k < p
          · have hki : (k : Int) < (p : Int) := by omega
            obtain ⟨grv, pv, gxs, hgr, gW⟩ := HC.out
            have HGR : Hid (GrOk (psOf zs (i + 1)) gxs) := hgr
            obtain ⟨GM, hGM⟩ : ∃ l, l = GL ++ List.replicate k i := ⟨_, rfl⟩
            rw [← hGM] at gW
            have hGMl : GM.length ≤ 12 := by rw [hGM]; have := HGLl.out; simp; omega
            have HGM : Hid (GM = GL ++ List.replicate k i) := hGM
            clear hGM hgr HC
            have hb2 : (ivs GM).length + 1 ≤ 100000000 := by rw [ivs_length]; omega
            obtain ⟨wi, rfl⟩ : ∃ x : World, x = wr := ⟨_, rfl⟩
            have hsrc2 := Src.ofSlice (P := Ybaf.prog) (size := 1) (wi.alloc (.cells #[.int .i64 (i : Int)] 3)) Ybaf.underlying27 ⟨wi.heap.size, 0, none⟩ 1 1 [.int .i64 (i : Int)] rfl (news_alloc wi [.int .i64 (i : Int)] 3) (by intro u hu; simp at hu; subst hu; rfl)
            go_wp2_with (at_builtin; refine wpList_append_rowK _ rfl (.tmp 69) (.tmp 71) 27 27 rfl B 3 i3 (.int .i64 0) 1 8 Ybaf.underlying27 hi3 hz30 hz31 hz32 rfl u7 (ivs GM).length (ivs GM) rfl ((gW.rowAt 0 rfl).alloc _) _ 1 [.int .i64 (i : Int)] rfl hsrc2 (max_ok hb2) (bytes_ok hb2 (by decide)) (by have := gW.size; simp; omega) ?_; intro gv1 w7 h1 h2 h3 h4 h5)
            go_roundw
            case rel =>
              refine ⟨k + 1, hkl, by go_num, ?_⟩
              have := gW.push 0 rfl rfl h1 h2 (by simpa using h3) (by simpa using h4)
              have e : ivs GM ++ [Value.int .i64 (i : Int)] = ivs (GL ++ List.replicate (k + 1) i) := by
                rw [HGM.out, List.replicate_succ', ← List.append_assoc]; simp [ivs, iv]
              rw [e] at this
              exact ⟨grv, pv, gxs, HGR.out, this⟩
            case measure => simp [intOf]; omega
          · have hki : decide ((k : Int) < (p : Int)) = false := decide_eq_false (by omega)
            have hke : k = p := by omega
            subst hke
            go_wp2_with fail
            go_roundw
            case rel =>
              refine ⟨i + 1, hlt, by go_num, ?_⟩
              have e1 : groupL 0 (psOf zs (i + 1)) = GL ++ List.replicate k i := by
                rw [psOf_succ, groupL_snoc, ← HGL.out, ← HP.out, psOf_length]
              rw [e1]
              exact HC
            case measure => simp [intOf]; omega
    · have hii : decide ((i : Int) < (g : Int)) = false := decide_eq_false (by omega)
      have hie : i = g := by omega
      subst hie
      obtain ⟨grv, pv, gxs, hgr, gW⟩ := HC.out
      have HGR : Hid (GrOk (psOf zs i) gxs) := hgr
      clear hgr HC
      have hb3 : i3.bytes * i ≤ 281474976710656 := by rw [hz32]; omega
      have him : i ≤ maxLen := by unfold maxLen; omega
      go_upto_region 16 with fail
      obtain ⟨wq, hwq⟩ : ∃ x : World, x = wr := ⟨_, rfl⟩
      rw [← hwq] at gW ⊢
      clear hwq
      go_cut [11] (fun s11 wx => ∃ db, s11 = .slice (some ⟨db, 0, none⟩) i i ∧ Goes B w [] wx (rowOf 3 (.slice (some ⟨db, 0, none⟩) i i) (List.replicate i (.int .i64 0)) :: (BL nb ib ins false (.map none) (.slice none 0 0) u7 grv pv (groupL 0 (psOf zs i)) i (psOf zs i).sum gxs)))
      case first =>
        go_wp2_with (at_make; refine wpList_make_full _ rfl (.tmp 73) (.tmp 73) 27 rfl B 3 i3 (.int .i64 0) 1 Ybaf.underlying27 hi3 hz30 hz31 .i64 .i64 _ _ i rfl rfl (by simp) (by simp) hb3 him gW.size ?_; intro w2 hown hgrow)
        go_meet
        rw [made_zero] at hown
        exact ⟨wq.heap.size, rfl, gW.cons (by unfold RowS.at rowOf; simpa using RowM.of_owns hown) hgrow (fun k hk => by simp [rowOf, Value.ownBlock] at hk; omega)⟩
      case rest =>
        obtain ⟨db, rfl, gX⟩ := hcut
        rename_i KK hKK
        refine hKK _ _ ?_
        exact build_rest B nb ib db i zs ins G sa zn zc all mask hh sr bg cn fg fu fl r0 r1 r2 r3 u7 grv pv gxs w _ _ _ _ _ _ _ _ _ _ _ _ _ _ _ _ _ _ _ _ _ _ _ _ _ _ _ _ _ _ _ _ _ _ _ _ _ _ _ _ _ _ _ _ _ _ _ _ _ _ _ _ _ _ _ _ _ _ _ _ _ _ _ _ _ _ _ _ _ _ _ _ _ _ _ _ _ _ _ _ _ _ _ _ _ _ _ _ _ _ _ _ _ _ _ _ _ _ _ _ _ _ _ _ _ _ _ _ _ _ _ _ _ _ _ _ _ _ _ _ _ _ _ _ _ _ _ _ _ _ _ _ _ _ _ _ _ _ _ _ _ _ _ _ _ _ _ _ _ HB HINS hg4 hm HGR gX

end YbulkaxksFmt
end Go.Proofs
