/-
  LawS2436BTree.
-/
import Derived.Test.YbulkaxksFmtLk
set_option linter.unusedVariables false
set_option linter.unusedSimpArgs false
namespace Go.Proofs
open Go.Extern.Stop Go.Stop Go.Extern Go.RowKit
namespace YbulkaxksFmt

set_option maxRecDepth 1000000 in
set_option maxHeartbeats 4000000 in
theorem tree_any (F : Interp) (G : Int) (sa : Option Addr) (zs : List Int) (zc : Nat) (all : Bool) (mask hh sr bg cn fg fu fl r0 r1 r2 r3 : Int) (w : World) (hF : F.answers w.tape) (hH : Hid (HealthsAt w))
    (hG : 0 ≤ G ∧ G ≤ 255) (hm : 0 ≤ mask ∧ mask ≤ 255) (hz : Hid (∀ j (hj : j < zs.length), ∃ b off, sa = some ⟨b, off, none⟩ ∧ b < w.heap.size ∧ w.cell? ⟨b, off + j, none⟩ = some (.int .u8 zs[j]))) (hzb : Hid (∀ z ∈ zs, 0 ≤ z ∧ z ≤ 255))
    (b0 : 0 ≤ hh ∧ hh ≤ 255) (bs0 : 0 ≤ sr ∧ sr ≤ 255) (b1 : -128 ≤ bg ∧ bg ≤ 127) (b2 : -128 ≤ cn ∧ cn ≤ 127) (b3 : -128 ≤ fg ∧ fg ≤ 127) (b4 : -128 ≤ fu ∧ fu ≤ 127) (b5 : -128 ≤ fl ∧ fl ≤ 127)
    (c0 : 0 ≤ r0 ∧ r0 ≤ 255) (c1 : 0 ≤ r1 ∧ r1 ≤ 255) (c2 : 0 ≤ r2 ∧ r2 ≤ 255) (c3 : 0 ≤ r3 ∧ r3 ≤ 255) :
    Calls Ybaf.prog 4 #[.agg (inXs G (.slice sa zs.length zc) all mask hh sr bg cn fg fu fl r0 r1 r2 r3)] w fun e w' => e = .returned (.bool true) ∧ Below w.heap.size w w' := by
  have HF : Hid (F.answers w.tape) := hF
  clear hF
  obtain ⟨x1, hx1⟩ : ∃ W, W = w.alloc (.cells (inXs G (.slice sa zs.length zc) all mask hh sr bg cn fg fu fl r0 r1 r2 r3).toList.toArray 25) := ⟨_, rfl⟩
  have B1 : Below w.heap.size w x1 := by rw [hx1]; exact (Below.refl _ _).alloc (Nat.le_refl _) _
  have I1 : InBox x1 w.heap.size (inXs G (.slice sa zs.length zc) all mask hh sr bg cn fg fu fl r0 r1 r2 r3).toList := by rw [hx1]; exact InBox.new w _
  have HB5 := build_any G sa zs zc all mask hh sr bg cn fg fu fl r0 r1 r2 r3 x1 hG hm (fun j hj => by
    obtain ⟨b, off, e1, e2, e3⟩ := hz.out j hj
    exact ⟨b, off, e1, Nat.lt_of_lt_of_le e2 B1.size, Below.cellK B1 e3⟩) hzb
  obtain ⟨g, hg⟩ : ∃ g, g = 1 + (G % 4).toNat := ⟨_, rfl⟩
  have hg4 : 1 ≤ g ∧ g ≤ 4 := by omega
  rw [← hg] at HB5
  clear hg
  have hq := psOf_pos zs g hg4
  obtain ⟨q, hqe⟩ : ∃ q, q = (psOf zs g).sum := ⟨_, rfl⟩
  have HQ : Hid (q = (psOf zs g).sum) := hqe
  rw [← hqe] at hq
  clear hqe
  obtain ⟨hn, hhn⟩ : ∃ n : Nat, hh % 4 = (n : Int) := ⟨(hh % 4).toNat, by omega⟩
  have hn4 : hn < 4 := by omega
  obtain ⟨src, hsrc⟩ : ∃ n : Nat, Int.tmod sr (q : Int) = (n : Int) := ⟨(Int.tmod sr (q : Int)).toNat, by rw [Int.toNat_of_nonneg (Int.tmod_nonneg _ (by omega))]⟩
  have hsq : src < q := by
    have h1 : Int.tmod sr (q : Int) < (q : Int) := Int.tmod_lt_of_pos _ (by omega)
    omega
  have HPL : Hid ((psOf zs g).length = g) := psOf_length _ _
  have ww1 : IntKind.i64.wrap bg = bg := by rw [IntKind.wrap_i64]; omega
  have ww2 : IntKind.i64.wrap cn = cn := by rw [IntKind.wrap_i64]; omega
  have ww3 : IntKind.i64.wrap fg = fg := by rw [IntKind.wrap_i64]; omega
  have ww4 : IntKind.i64.wrap fu = fu := by rw [IntKind.wrap_i64]; omega
  have ww6 : IntKind.i64.wrap sr = sr := by rw [IntKind.wrap_i64]; omega
  have hws : IntKind.i64.wrap (src : Int) = (src : Int) := by rw [IntKind.wrap_i64]; omega
  have hq0 : ¬ (q : Int) = 0 := by omega
  unfold inXs at HB5 ⊢
  go_enter Ybaf.func4, Ybaf.ntmps4
  go_upto_region 1 with fail
  have ex1 : w.alloc (Obj.cells #[Value.int IntKind.u8 G, Value.slice sa zs.length zc, Value.bool all, Value.int IntKind.u8 mask, Value.int IntKind.u8 hh, Value.int IntKind.u8 sr, Value.int IntKind.i8 bg, Value.int IntKind.i8 cn, Value.int IntKind.i8 fg, Value.int IntKind.i8 fu, Value.int IntKind.i8 fl, Value.int IntKind.u8 r0, Value.int IntKind.u8 r1, Value.int IntKind.u8 r2, Value.int IntKind.u8 r3] 25) = x1 := hx1.symm
  rw [ex1]
  obtain ⟨ib, hib⟩ : ∃ b, b = w.heap.size := ⟨_, rfl⟩
  have HIB : Hid (ib = w.heap.size) := hib
  rw [← hib]
  rw [← hib] at I1
  clear ex1 hx1 hib
  have a0 := I1 0 _ rfl; have a1 := I1 1 _ rfl; have a2 := I1 2 _ rfl; have a3 := I1 3 _ rfl; have a4 := I1 4 _ rfl; have a5 := I1 5 _ rfl; have a6 := I1 6 _ rfl; have a7 := I1 7 _ rfl; have a8 := I1 8 _ rfl; have a9 := I1 9 _ rfl; have a10 := I1 10 _ rfl; have a11 := I1 11 _ rfl; have a12 := I1 12 _ rfl; have a13 := I1 13 _ rfl; have a14 := I1 14 _ rfl
  go_upto_region 2 with (go_at_call 5; refine HB5.mono ?_; rintro e x2 ⟨nb, db, dc, ga, gc, prs, deg, rfl, hN, hdl, hdg, hgo, hbl, hpp, hpl, hdd, hd12, hfull⟩)
  rw [← HQ.out]
  obtain ⟨ps, hpse⟩ : ∃ ps, ps = psOf zs g := ⟨_, rfl⟩
  have HPS : Hid (ps.length = g ∧ ps.sum = q) := ⟨by rw [hpse]; exact HPL.out, by rw [hpse]; exact HQ.out.symm⟩
  rw [← hpse] at hN hgo hdd hd12 hfull
  clear hpse HB5 HPL HQ
  have B2 := B1.trans (hbl.mono B1.size)
  have I2 := I1.below hbl
  have e0 := I2 0 _ rfl; have e1 := I2 1 _ rfl; have e2 := I2 2 _ rfl; have e3 := I2 3 _ rfl; have e4 := I2 4 _ rfl; have e5 := I2 5 _ rfl; have e6 := I2 6 _ rfl; have e7 := I2 7 _ rfl; have e8 := I2 8 _ rfl; have e9 := I2 9 _ rfl; have e10 := I2 10 _ rfl; have e11 := I2 11 _ rfl; have e12 := I2 12 _ rfl; have e13 := I2 13 _ rfl; have e14 := I2 14 _ rfl
  have HU := fun (x3 : World) (hb3 : Below x2.heap.size x2 x3) => under_any F nb src hn ps all prs bg cn fg fl fu (r0 % 5) (r1 % 5) (r2 % 5) (r3 % 5) x3 (by rw [hb3.tape, hbl.tape, B1.tape]; exact HF.out) (hN.below hb3) (by rw [HPS.out.1]; omega) (by rw [HPS.out.1]; omega) (by rw [HPS.out.2]; omega) (by rw [HPS.out.1]; exact hpp) hpl hd12 (by rw [HPS.out.2]; exact hsq) hn4 (((hH.out.below B1).below hbl).below hb3) b1 b2 b3 b4 (by omega) (by omega) (by omega) (by omega)
  rw [HPS.out.1] at HU
  have HDL : Hid (deg.length = g) := hdl
  have HD2 : Hid (NatsAt x2 0 (some ⟨db, 0, none⟩) deg) := hdg
  have HG2 : Hid (NatsAt x2 0 ga (groupL 0 ps)) := hgo
  have HDD : Hid (∀ a (ha : a < deg.length), deg[a] = degN ps all prs a) := hdd
  have HD12 : Hid (∀ a, degN ps all prs a ≤ 12) := hd12
  have HFL : Hid (fullN deg = fullB ps all prs) := hfull
  clear a0 a1 a2 a3 a4 a5 a6 a7 a8 a9 a10 a11 a12 a13 a14 hN hdg hgo hpp hpl hdd hd12 hfull hdl hH HF
  go_upto_region 3 with fail
  refine wp_region_noPanic ?_
  refine wp_region_till (by kernel_rfl) (fun _ => True) (fun W => InBox W ib (inXs G (.slice sa zs.length zc) all mask hh sr bg cn fg fu fl r0 r1 r2 r3).toList) [] 13 rfl ?_
  have BD : Below x2.heap.size x2 x2.drew := ⟨rfl, rfl, rfl, Nat.le_refl _, fun _ _ => rfl⟩
  have ID : InBox x2.drew ib (inXs G (.slice sa zs.length zc) all mask hh sr bg cn fg fu fl r0 r1 r2 r3).toList := I2.below BD
  obtain ⟨xd, hxd⟩ : ∃ W, W = x2.drew := ⟨_, rfl⟩
  rw [← hxd] at BD ID ⊢
  clear hxd e0 e1 e2 e3 e4 e5 e6 e7 e8 e9 e10 e11 e12 e13 e14
  have HUH : Hid _ := HU
  clear HU
  have HB7 := bounds_any G sa zs.length zc all mask hh sr bg cn fg fu fl r0 r1 r2 r3 xd b1 b2 b3 b4 b5 c0 c1 c2 c3
  unfold inXs at HB7
  refine till_take0 0 (some 27) (v := ?va0) rfl rfl (by kernel_rfl) (by kernel_rfl) (by kernel_rfl) (fun _ _ _ h => h) (Or.inl ⟨by rfl, ?ya0⟩) ID ?ra0
  case ya0 => intro w' t; have d0 := t 0 _ rfl; have d1 := t 1 _ rfl; have d2 := t 2 _ rfl; have d3 := t 3 _ rfl; have d4 := t 4 _ rfl; have d5 := t 5 _ rfl; have d6 := t 6 _ rfl; have d7 := t 7 _ rfl; have d8 := t 8 _ rfl; have d9 := t 9 _ rfl; have d10 := t 10 _ rfl; have d11 := t 11 _ rfl; have d12 := t 12 _ rfl; have d13 := t 13 _ rfl; have d14 := t 14 _ rfl; (try simp only [hhn]); go_simp; (try simp only [hhn]); all_goals with_reducible rfl
  simp only [Act.put, List.setIfInBounds_toArray, List.set_cons_zero, List.set_cons_succ]
  refine till_take0 1 (some 28) (v := ?va1) rfl rfl (by kernel_rfl) (by kernel_rfl) (by kernel_rfl) (fun _ _ _ h => h) (Or.inl ⟨by rfl, ?ya1⟩) ID ?ra1
  case ya1 => intro w' t; have d0 := t 0 _ rfl; have d1 := t 1 _ rfl; have d2 := t 2 _ rfl; have d3 := t 3 _ rfl; have d4 := t 4 _ rfl; have d5 := t 5 _ rfl; have d6 := t 6 _ rfl; have d7 := t 7 _ rfl; have d8 := t 8 _ rfl; have d9 := t 9 _ rfl; have d10 := t 10 _ rfl; have d11 := t 11 _ rfl; have d12 := t 12 _ rfl; have d13 := t 13 _ rfl; have d14 := t 14 _ rfl; (try simp only [hhn]); go_simp; (try simp only [hhn]); all_goals with_reducible rfl
  simp only [Act.put, List.setIfInBounds_toArray, List.set_cons_zero, List.set_cons_succ]
  refine till_take0 3 (some 30) (v := ?va3) rfl rfl (by kernel_rfl) (by kernel_rfl) (by kernel_rfl) (fun _ _ _ h => h) (Or.inl ⟨by rfl, ?ya3⟩) ID ?ra3
  case ya3 => intro w' t; have d0 := t 0 _ rfl; have d1 := t 1 _ rfl; have d2 := t 2 _ rfl; have d3 := t 3 _ rfl; have d4 := t 4 _ rfl; have d5 := t 5 _ rfl; have d6 := t 6 _ rfl; have d7 := t 7 _ rfl; have d8 := t 8 _ rfl; have d9 := t 9 _ rfl; have d10 := t 10 _ rfl; have d11 := t 11 _ rfl; have d12 := t 12 _ rfl; have d13 := t 13 _ rfl; have d14 := t 14 _ rfl; (try simp only [hhn]); go_simp; (try simp only [hhn]); all_goals with_reducible rfl
  simp only [Act.put, List.setIfInBounds_toArray, List.set_cons_zero, List.set_cons_succ]
  refine till_take0 4 (some 31) (v := ?va4) rfl rfl (by kernel_rfl) (by kernel_rfl) (by kernel_rfl) (fun _ _ _ h => h) (Or.inl ⟨by rfl, ?ya4⟩) ID ?ra4
  case ya4 => intro w' t; have d0 := t 0 _ rfl; have d1 := t 1 _ rfl; have d2 := t 2 _ rfl; have d3 := t 3 _ rfl; have d4 := t 4 _ rfl; have d5 := t 5 _ rfl; have d6 := t 6 _ rfl; have d7 := t 7 _ rfl; have d8 := t 8 _ rfl; have d9 := t 9 _ rfl; have d10 := t 10 _ rfl; have d11 := t 11 _ rfl; have d12 := t 12 _ rfl; have d13 := t 13 _ rfl; have d14 := t 14 _ rfl; (try simp only [hhn]); go_simp; (try simp only [hhn]); all_goals with_reducible rfl
  simp only [Act.put, List.setIfInBounds_toArray, List.set_cons_zero, List.set_cons_succ]
  refine till_take0 5 (some 32) (v := ?va5) rfl rfl (by kernel_rfl) (by kernel_rfl) (by kernel_rfl) (fun _ _ _ h => h) (Or.inl ⟨by rfl, ?ya5⟩) ID ?ra5
  case ya5 => intro w' t; have d0 := t 0 _ rfl; have d1 := t 1 _ rfl; have d2 := t 2 _ rfl; have d3 := t 3 _ rfl; have d4 := t 4 _ rfl; have d5 := t 5 _ rfl; have d6 := t 6 _ rfl; have d7 := t 7 _ rfl; have d8 := t 8 _ rfl; have d9 := t 9 _ rfl; have d10 := t 10 _ rfl; have d11 := t 11 _ rfl; have d12 := t 12 _ rfl; have d13 := t 13 _ rfl; have d14 := t 14 _ rfl; (try simp only [hhn]); go_simp; (try simp only [hhn]); all_goals with_reducible rfl
  simp only [Act.put, List.setIfInBounds_toArray, List.set_cons_zero, List.set_cons_succ]
  refine till_take0 6 (some 33) (v := ?va6) rfl rfl (by kernel_rfl) (by kernel_rfl) (by kernel_rfl) (fun _ _ _ h => h) (Or.inl ⟨by rfl, ?ya6⟩) ID ?ra6
  case ya6 => intro w' t; have d0 := t 0 _ rfl; have d1 := t 1 _ rfl; have d2 := t 2 _ rfl; have d3 := t 3 _ rfl; have d4 := t 4 _ rfl; have d5 := t 5 _ rfl; have d6 := t 6 _ rfl; have d7 := t 7 _ rfl; have d8 := t 8 _ rfl; have d9 := t 9 _ rfl; have d10 := t 10 _ rfl; have d11 := t 11 _ rfl; have d12 := t 12 _ rfl; have d13 := t 13 _ rfl; have d14 := t 14 _ rfl; (try simp only [hhn]); go_simp; (try simp only [hhn]); all_goals with_reducible rfl
  simp only [Act.put, List.setIfInBounds_toArray, List.set_cons_zero, List.set_cons_succ]
  refine till_one (i := 2) (by kernel_rfl) rfl rfl fun K hK => ?_
  go_simp
  refine HB7.mono ?_
  rintro e x3 ⟨rfl, hb3⟩
  have I3 := ID.below hb3
  refine hK _ _ (.inr id) (fun _ => I3) ?_
  clear hK K
  (try simp only [Act.put, List.setIfInBounds_toArray, List.set_cons_zero, List.set_cons_succ])
  have hbx : Below x2.heap.size x2 x3 := BD.trans (hb3.mono BD.size)
  refine till_one (i := 7) (by kernel_rfl) rfl rfl fun K hK => ?_
  go_simp
  rw [show Int.tmod hh 4 = (hn : Int) by rw [Int.tmod_eq_emod_of_nonneg b0.1, hhn]]
  refine (HUH.out x3 hbx).mono ?_
  rintro e x4 ⟨gs, hgs, sb, lb, k, tb, tc, pb, pc, fvc, eb, ec, pb0, pn, pc0, fva, bs, he, hb4, hrest⟩
  subst he
  have HREST : Hid _ := hrest
  have HGS : Hid _ := hgs
  clear hrest hgs HUH HB7
  have I4 := I3.below hb4
  refine hK _ _ (.inr id) (fun _ => I4) ?_
  clear hK K
  (try simp only [Act.put, List.setIfInBounds_toArray, List.set_cons_zero, List.set_cons_succ])
  refine till_take0 8 (some 26) (v := ?vb8) rfl rfl (by kernel_rfl) (by kernel_rfl) (by kernel_rfl) (fun _ _ _ h => h) (Or.inl ⟨by rfl, ?yb8⟩) I4 ?rb8
  case yb8 => intro w' t; go_simp; all_goals with_reducible rfl
  simp only [Act.put, List.setIfInBounds_toArray, List.set_cons_zero, List.set_cons_succ]
  refine till_take0 9 (some 35) (v := ?vb9) rfl rfl (by kernel_rfl) (by kernel_rfl) (by kernel_rfl) (fun _ _ _ h => h) (Or.inl ⟨by rfl, ?yb9⟩) I4 ?rb9
  case yb9 => intro w' t; go_simp; all_goals with_reducible rfl
  simp only [Act.put, List.setIfInBounds_toArray, List.set_cons_zero, List.set_cons_succ]
  refine till_take0 10 (some 36) (v := ?vb10) rfl rfl (by kernel_rfl) (by kernel_rfl) (by kernel_rfl) (fun _ _ _ h => h) (Or.inl ⟨by rfl, ?yb10⟩) I4 ?rb10
  case yb10 => intro w' t; go_simp; all_goals with_reducible rfl
  simp only [Act.put, List.setIfInBounds_toArray, List.set_cons_zero, List.set_cons_succ]
  refine till_take0 11 (some 7) (v := ?vb11) rfl rfl (by kernel_rfl) (by kernel_rfl) (by kernel_rfl) (fun _ _ _ h => h) (Or.inl ⟨by rfl, ?yb11⟩) I4 ?rb11
  case yb11 => intro w' t; go_simp; all_goals with_reducible rfl
  simp only [Act.put, List.setIfInBounds_toArray, List.set_cons_zero, List.set_cons_succ]
  refine till_take0 12 (some 8) (v := ?vb12) rfl rfl (by kernel_rfl) (by kernel_rfl) (by kernel_rfl) (fun _ _ _ h => h) (Or.inl ⟨by rfl, ?yb12⟩) I4 ?rb12
  case yb12 => intro w' t; go_simp; all_goals with_reducible rfl
  simp only [Act.put, List.setIfInBounds_toArray, List.set_cons_zero, List.set_cons_succ]
  refine till_done (by kernel_rfl) ?_ _
  refine NoPanic.normal ?_
  have hgs := HGS.out
  obtain ⟨⟨t1, t2, t4, t5, t6, t7, t8, t9, t10, t11, t12, t13, t14⟩, ⟨hl1, hl2, hl3, hl4⟩, ⟨v1, v2, v3, v4⟩, hk⟩ := HREST.out
  clear HREST HGS
  have B3 := B2.trans (hbx.mono B2.size)
  have HB4 : Hid (Below w.heap.size w x4) := B3.trans (hb4.mono B3.size)
  have HBS : Hid (bs.length = g + 1 ∧ bs[0]? = some 0 ∧ (∀ a, a < g → ∀ (h1 : a < bs.length) (h2 : a + 1 < bs.length), bs[a + 1] = bs[a] + degN ps all prs a ∧ bs[a + 1] ≤ 12 * (a + 1)) ∧ NatsAt x4 0 (some ⟨lb, 0, none⟩) bs) := ⟨hl1, hl2, hl3, hl4⟩
  have HD4 : Hid (NatsAt x4 0 (some ⟨db, 0, none⟩) deg) := (HD2.out.below hbx).below hb4
  have HG4 : Hid (NatsAt x4 0 ga (groupL 0 ps)) := (HG2.out.below hbx).below hb4
  have i0 := I4 0 _ rfl; have i1 := I4 1 _ rfl; have i2 := I4 2 _ rfl; have i3 := I4 3 _ rfl; have i4 := I4 4 _ rfl; have i5 := I4 5 _ rfl; have i6 := I4 6 _ rfl; have i7 := I4 7 _ rfl; have i8 := I4 8 _ rfl; have i9 := I4 9 _ rfl; have i10 := I4 10 _ rfl; have i11 := I4 11 _ rfl; have i12 := I4 12 _ rfl; have i13 := I4 13 _ rfl; have i14 := I4 14 _ rfl
  have HE := expect_any G sa zs.length zc all mask hh sr bg cn fg fu fl r0 r1 r2 r3 (some ⟨db, 0, none⟩) dc deg x4 b0 b1 c0 c1 c2 c3 HD4 (by rw [HDL.out]; omega) (fun x hx => by
    obtain ⟨a, ha, rfl⟩ := List.getElem_of_mem hx
    rw [HDD.out a ha]
    exact HD12.out a)
  rw [HDL.out, hhn, HFL.out] at HE
  unfold inXs at HE
  clear hl1 hl2 hl3 hl4 hb4 hb3 B3 HD2 HG2 hbx BD ID
  go_upto_region 7 with (go_at_call 8; refine HE.mono ?_; rintro e x5 ⟨rfl, hb5⟩)
  have HB5' : Hid (Below w.heap.size w x5) := HB4.out.trans (hb5.mono HB4.out.size)
  replace t12 := Below.cellK hb5 t12
  replace t13 := Below.cellK hb5 t13
  replace t14 := Below.cellK hb5 t14
  replace v1 := Below.cellK hb5 v1
  replace v2 := Below.cellK hb5 v2
  replace v3 := Below.cellK hb5 v3
  replace v4 := Below.cellK hb5 v4
  have hgl : src < (groupL 0 ps).length := by rw [groupL_length, HPS.out.2]; exact hsq
  obtain ⟨gb, hga, -, cg⟩ := (HG4.out.below hb5) src hgl
  rw [(List.getElem?_eq_some_iff.1 hgs).2] at cg
  unfold iv at cg
  subst hga
  have hgs4 : gs < 4 := by
    have := groupL_lt ps 0 gs (List.mem_of_getElem? hgs)
    rw [HPS.out.1] at this
    omega
  have hw32 : IntKind.i32.wrap (gs : Int) = (gs : Int) := by rw [IntKind.wrap_i32]; omega
  have hsi : (src : Int) < (q : Int) := by omega
  obtain ⟨R, hR⟩ : ∃ R, R = roundsOf (hn : Int) (r0 % 5) (r1 % 5) (r2 % 5) (r3 % 5) := ⟨_, rfl⟩
  have hRb : 0 ≤ R ∧ R ≤ 4 := by rw [hR]; exact roundsOf_le (by omega) (by omega) (by omega) (by omega)
  obtain ⟨cr, hcr⟩ : ∃ c, c = corrOf (hn : Int) (fullB ps all prs) bg := ⟨_, rfl⟩
  rw [← hR, ← hcr] at hk
  rw [← hR, ← hcr]
  have HK : Hid (((k : Int) = 0 ∨ (k : Int) ≤ (if cr then R - 1 else R) - 1) ∧ (if cr then R - 1 else R) - 1 ≤ (k : Int)) := hk
  have hk4 : k ≤ 4 := by have := hk.1; split at this <;> omega
  have hwR : IntKind.i64.wrap (R - 1) = R - 1 := by rw [IntKind.wrap_i64]; omega
  clear hR hcr hk hb5 I1 I2 I3 I4 HE hgs hgl HG4 HD4 HBS i0 i1 i2 i3 i4 i5 i6 i7 i8 i9 i10 i11 i12 i13 i14 t1 t2 t4 t5 t6 t7 t8 t9 t10 t11
  go_upto_if 51 with fail
  go_cut [12] (fun s12 wx => s12 = .int .i64 (if cr then R - 1 else R) ∧ x5 = wx)
  case first =>
    cases cr
    · go_wp2_with fail
      go_meet
      exact ⟨rfl, rfl⟩
    · go_wp2_with fail
      go_meet
      exact ⟨rfl, rfl⟩
  case rest =>
    obtain ⟨rfl, rfl⟩ := hcut
    obtain ⟨lev, hlev⟩ : ∃ l, l = (if cr then R - 1 else R) := ⟨_, rfl⟩
    have HK2 : Hid (((k : Int) = 0 ∨ (k : Int) ≤ lev - 1) ∧ lev - 1 ≤ (k : Int)) := by show _; rw [hlev]; exact HK.out
    rw [← hlev]
    clear hlev HK
    go_upto_if 55 with fail
    go_cut [13] (fun s13 wx => s13 = .int .i64 ((k : Int) + 1) ∧ x5 = wx)
    case first =>
      by_cases hc : 1 < lev
      · go_wp2_with fail
        go_meet
        exact ⟨by rw [show lev = (k : Int) + 1 by have := HK2.out; omega], rfl⟩
      · have hc' : decide (1 < lev) = false := decide_eq_false hc
        go_wp2_with fail
        go_meet
        exact ⟨by rw [show (k : Int) + 1 = 1 by have := HK2.out; omega], rfl⟩
    case rest =>
      obtain ⟨rfl, rfl⟩ := hcut
      have hwk : IntKind.i64.wrap ((k : Int) + 1 - 1) = (k : Int) := by rw [IntKind.wrap_i64]; omega
      have hk0 : (0 : Int) < (k : Int) + 1 := by omega
      go_upto_region 15 with fail
      go_quiet (fail)
      go_wp2_with fail
      go_ret
      exact ⟨by simp, below_drewN HB5'.out nq⟩

end YbulkaxksFmt
end Go.Proofs
