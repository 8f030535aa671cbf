/-
  LawS2436BFields.
-/
import Derived.Test.YbulkaxksFmtFr
set_option linter.unusedVariables false
set_option linter.unusedSimpArgs false
namespace Go.Proofs
open Go.Extern.Stop Go.Stop Go.Extern Go.RowKit
namespace YbulkaxksFmt

set_option maxRecDepth 1000000 in
set_option maxHeartbeats 4000000 in
theorem fields_any (F : Interp) (G : Int) (sa : Option Addr) (zs : List Int) (zc : Nat) (all : Bool) (mask hh sr bg cn fg fu fl r0 r1 r2 r3 : Int) (w : World) (hF : F.answers w.tape) (hH : Hid (HealthsAt w))
    (hG : 0 ≤ G ∧ G ≤ 255) (hm : 0 ≤ mask ∧ mask ≤ 255) (hz : Hid (∀ j (hj : j < zs.length), ∃ b off, sa = some ⟨b, off, none⟩ ∧ b < w.heap.size ∧ w.cell? ⟨b, off + j, none⟩ = some (.int .u8 zs[j]))) (hzb : Hid (∀ z ∈ zs, 0 ≤ z ∧ z ≤ 255))
    (b0 : 0 ≤ hh ∧ hh ≤ 255) (bs0 : 0 ≤ sr ∧ sr ≤ 255) (b1 : -128 ≤ bg ∧ bg ≤ 127) (b2 : -128 ≤ cn ∧ cn ≤ 127) (b3 : -128 ≤ fg ∧ fg ≤ 127) (b4 : -128 ≤ fu ∧ fu ≤ 127) (b5 : -128 ≤ fl ∧ fl ≤ 127)
    (c0 : 0 ≤ r0 ∧ r0 ≤ 255) (c1 : 0 ≤ r1 ∧ r1 ≤ 255) (c2 : 0 ≤ r2 ∧ r2 ≤ 255) (c3 : 0 ≤ r3 ∧ r3 ≤ 255) :
    Calls Ybaf.prog 3 #[.agg (inXs G (.slice sa zs.length zc) all mask hh sr bg cn fg fu fl r0 r1 r2 r3)] w fun e w' => e = .returned (.bool true) ∧ Below w.heap.size w w' := by
  have HF : Hid (F.answers w.tape) := hF
  clear hF
  obtain ⟨x1, hx1⟩ : ∃ W, W = w.alloc (.cells (inXs G (.slice sa zs.length zc) all mask hh sr bg cn fg fu fl r0 r1 r2 r3).toList.toArray 25) := ⟨_, rfl⟩
  have B1 : Below w.heap.size w x1 := by rw [hx1]; exact (Below.refl _ _).alloc (Nat.le_refl _) _
  have I1 : InBox x1 w.heap.size (inXs G (.slice sa zs.length zc) all mask hh sr bg cn fg fu fl r0 r1 r2 r3).toList := by rw [hx1]; exact InBox.new w _
  have HB5 := build_any G sa zs zc all mask hh sr bg cn fg fu fl r0 r1 r2 r3 x1 hG hm (fun j hj => by
    obtain ⟨b, off, e1, e2, e3⟩ := hz.out j hj
    exact ⟨b, off, e1, Nat.lt_of_lt_of_le e2 B1.size, Below.cellK B1 e3⟩) hzb
  obtain ⟨g, hg⟩ : ∃ g, g = 1 + (G % 4).toNat := ⟨_, rfl⟩
  have hg4 : 1 ≤ g ∧ g ≤ 4 := by omega
  rw [← hg] at HB5
  clear hg
  have hq := psOf_pos zs g hg4
  obtain ⟨q, hqe⟩ : ∃ q, q = (psOf zs g).sum := ⟨_, rfl⟩
  have HQ : Hid (q = (psOf zs g).sum) := hqe
  rw [← hqe] at hq
  clear hqe
  obtain ⟨hn, hhn⟩ : ∃ n : Nat, hh % 4 = (n : Int) := ⟨(hh % 4).toNat, by omega⟩
  have hn4 : hn < 4 := by omega
  obtain ⟨src, hsrc⟩ : ∃ n : Nat, Int.tmod sr (q : Int) = (n : Int) := ⟨(Int.tmod sr (q : Int)).toNat, by rw [Int.toNat_of_nonneg (Int.tmod_nonneg _ (by omega))]⟩
  have hsq : src < q := by
    have h1 : Int.tmod sr (q : Int) < (q : Int) := Int.tmod_lt_of_pos _ (by omega)
    omega
  have HPL : Hid ((psOf zs g).length = g) := psOf_length _ _
  have ww1 : IntKind.i64.wrap bg = bg := by rw [IntKind.wrap_i64]; omega
  have ww2 : IntKind.i64.wrap cn = cn := by rw [IntKind.wrap_i64]; omega
  have ww3 : IntKind.i64.wrap fg = fg := by rw [IntKind.wrap_i64]; omega
  have ww4 : IntKind.i64.wrap fu = fu := by rw [IntKind.wrap_i64]; omega
  have ww6 : IntKind.i64.wrap sr = sr := by rw [IntKind.wrap_i64]; omega
  have hws : IntKind.i64.wrap (src : Int) = (src : Int) := by rw [IntKind.wrap_i64]; omega
  have hq0 : ¬ (q : Int) = 0 := by omega
  unfold inXs at HB5 ⊢
  go_enter Ybaf.func3, Ybaf.ntmps3
  go_upto_region 1 with fail
  have ex1 : w.alloc (Obj.cells #[Value.int IntKind.u8 G, Value.slice sa zs.length zc, Value.bool all, Value.int IntKind.u8 mask, Value.int IntKind.u8 hh, Value.int IntKind.u8 sr, Value.int IntKind.i8 bg, Value.int IntKind.i8 cn, Value.int IntKind.i8 fg, Value.int IntKind.i8 fu, Value.int IntKind.i8 fl, Value.int IntKind.u8 r0, Value.int IntKind.u8 r1, Value.int IntKind.u8 r2, Value.int IntKind.u8 r3] 25) = x1 := hx1.symm
  rw [ex1]
  obtain ⟨ib, hib⟩ : ∃ b, b = w.heap.size := ⟨_, rfl⟩
  have HIB : Hid (ib = w.heap.size) := hib
  rw [← hib]
  rw [← hib] at I1
  clear ex1 hx1 hib
  have a0 := I1 0 _ rfl; have a1 := I1 1 _ rfl; have a2 := I1 2 _ rfl; have a3 := I1 3 _ rfl; have a4 := I1 4 _ rfl; have a5 := I1 5 _ rfl; have a6 := I1 6 _ rfl; have a7 := I1 7 _ rfl; have a8 := I1 8 _ rfl; have a9 := I1 9 _ rfl; have a10 := I1 10 _ rfl; have a11 := I1 11 _ rfl; have a12 := I1 12 _ rfl; have a13 := I1 13 _ rfl; have a14 := I1 14 _ rfl
  go_upto_region 2 with (go_at_call 5; refine HB5.mono ?_; rintro e x2 ⟨nb, db, dc, ga, gc, prs, deg, rfl, hN, hdl, hdg, hgo, hbl, hpp, hpl, hdd, hd12, hfull⟩)
  rw [← HQ.out]
  obtain ⟨ps, hpse⟩ : ∃ ps, ps = psOf zs g := ⟨_, rfl⟩
  have HPS : Hid (ps.length = g ∧ ps.sum = q) := ⟨by rw [hpse]; exact HPL.out, by rw [hpse]; exact HQ.out.symm⟩
  rw [← hpse] at hN hgo hdd hd12 hfull
  clear hpse HB5 HPL HQ
  have B2 := B1.trans (hbl.mono B1.size)
  have I2 := I1.below hbl
  have e0 := I2 0 _ rfl; have e1 := I2 1 _ rfl; have e2 := I2 2 _ rfl; have e3 := I2 3 _ rfl; have e4 := I2 4 _ rfl; have e5 := I2 5 _ rfl; have e6 := I2 6 _ rfl; have e7 := I2 7 _ rfl; have e8 := I2 8 _ rfl; have e9 := I2 9 _ rfl; have e10 := I2 10 _ rfl; have e11 := I2 11 _ rfl; have e12 := I2 12 _ rfl; have e13 := I2 13 _ rfl; have e14 := I2 14 _ rfl
  have HB7 := bounds_any G sa zs.length zc all mask hh sr bg cn fg fu fl r0 r1 r2 r3 x2 b1 b2 b3 b4 b5 c0 c1 c2 c3
  unfold inXs at HB7
  have HU := fun (x3 : World) (hb3 : Below x2.heap.size x2 x3) => under_any F nb src hn ps all prs bg cn fg fl fu (r0 % 5) (r1 % 5) (r2 % 5) (r3 % 5) x3 (by rw [hb3.tape, hbl.tape, B1.tape]; exact HF.out) (hN.below hb3) (by rw [HPS.out.1]; omega) (by rw [HPS.out.1]; omega) (by rw [HPS.out.2]; omega) (by rw [HPS.out.1]; exact hpp) hpl hd12 (by rw [HPS.out.2]; exact hsq) hn4 (((hH.out.below B1).below hbl).below hb3) b1 b2 b3 b4 (by omega) (by omega) (by omega) (by omega)
  rw [HPS.out.1] at HU
  have HDL : Hid (deg.length = g) := hdl
  have HD2 : Hid (NatsAt x2 0 (some ⟨db, 0, none⟩) deg) := hdg
  have HG2 : Hid (NatsAt x2 0 ga (groupL 0 ps)) := hgo
  have HDD : Hid (∀ a (ha : a < deg.length), deg[a] = degN ps all prs a) := hdd
  have HD12 : Hid (∀ a, degN ps all prs a ≤ 12) := hd12
  have HFL : Hid (fullN deg = fullB ps all prs) := hfull
  clear a0 a1 a2 a3 a4 a5 a6 a7 a8 a9 a10 a11 a12 a13 a14 hN hdg hgo hpp hpl hdd hd12 hfull hdl hH HF
  go_upto_region 6 with (first | (go_at_call 7; refine HB7.mono ?_; rintro e x3 ⟨rfl, hb3⟩) | (go_at_call 6; refine (HU x3 hb3).mono ?_; rintro e x4 ⟨gs, hgs, sb, lb, k, tb, tc, pb, pc, fvc, eb, ec, pb0, pn, pc0, fva, bs, rfl, hb4, ⟨t1, t2, t4, t5, t6, t7, t8, t9, t10, t11, t12, t13, t14⟩, ⟨hl1, hl2, hl3, hl4⟩, ⟨v1, v2, v3, v4⟩, hk⟩))
  have B3 := B2.trans (hb3.mono B2.size)
  have I3 := I2.below hb3
  have I4 := I3.below hb4
  have HB4 : Hid (Below w.heap.size w x4) := B3.trans (hb4.mono B3.size)
  have HBS : Hid (bs.length = g + 1 ∧ bs[0]? = some 0 ∧ (∀ a, a < g → ∀ (h1 : a < bs.length) (h2 : a + 1 < bs.length), bs[a + 1] = bs[a] + degN ps all prs a ∧ bs[a + 1] ≤ 12 * (a + 1)) ∧ NatsAt x4 0 (some ⟨lb, 0, none⟩) bs) := ⟨hl1, hl2, hl3, hl4⟩
  have HD4 : Hid (NatsAt x4 0 (some ⟨db, 0, none⟩) deg) := (HD2.out.below hb3).below hb4
  have HG4 : Hid (NatsAt x4 0 ga (groupL 0 ps)) := (HG2.out.below hb3).below hb4
  have i0 := I4 0 _ rfl; have i1 := I4 1 _ rfl; have i2 := I4 2 _ rfl; have i3 := I4 3 _ rfl; have i4 := I4 4 _ rfl; have i5 := I4 5 _ rfl; have i6 := I4 6 _ rfl; have i7 := I4 7 _ rfl; have i8 := I4 8 _ rfl; have i9 := I4 9 _ rfl; have i10 := I4 10 _ rfl; have i11 := I4 11 _ rfl; have i12 := I4 12 _ rfl; have i13 := I4 13 _ rfl; have i14 := I4 14 _ rfl
  have HE := expect_any G sa zs.length zc all mask hh sr bg cn fg fu fl r0 r1 r2 r3 (some ⟨db, 0, none⟩) dc deg x4 b0 b1 c0 c1 c2 c3 HD4 (by rw [HDL.out]; omega) (fun x hx => by
    obtain ⟨a, ha, rfl⟩ := List.getElem_of_mem hx
    rw [HDD.out a ha]
    exact HD12.out a)
  rw [HDL.out, hhn, HFL.out] at HE
  unfold inXs at HE
  clear hl1 hl2 hl3 hl4 hb4 hb3 HU HB7 B3 HD2 HG2
  go_upto_region 9 with (go_at_call 8; refine HE.mono ?_; rintro e x5 ⟨rfl, hb5⟩)
  have I5 := I4.below hb5
  have o0 := I5 0 _ rfl; have o1 := I5 1 _ rfl; have o2 := I5 2 _ rfl; have o3 := I5 3 _ rfl; have o4 := I5 4 _ rfl; have o5 := I5 5 _ rfl; have o6 := I5 6 _ rfl; have o7 := I5 7 _ rfl; have o8 := I5 8 _ rfl; have o9 := I5 9 _ rfl; have o10 := I5 10 _ rfl; have o11 := I5 11 _ rfl; have o12 := I5 12 _ rfl; have o13 := I5 13 _ rfl; have o14 := I5 14 _ rfl
  have HB5' : Hid (Below w.heap.size w x5) := HB4.out.trans (hb5.mono (Nat.le_trans HB4.out.size (Nat.le_refl _)))
  replace t1 := Below.cellK hb5 t1
  replace t2 := Below.cellK hb5 t2
  replace t4 := Below.cellK hb5 t4
  replace t5 := Below.cellK hb5 t5
  replace t6 := Below.cellK hb5 t6
  replace t7 := Below.cellK hb5 t7
  replace t8 := Below.cellK hb5 t8
  replace t9 := Below.cellK hb5 t9
  replace t10 := Below.cellK hb5 t10
  replace t11 := Below.cellK hb5 t11
  have HNB : Hid (NatsAt x5 0 (some ⟨lb, 0, none⟩) bs) := HBS.out.2.2.2.below hb5
  have HND : Hid (NatsAt x5 0 (some ⟨db, 0, none⟩) deg) := HD4.out.below hb5
  obtain ⟨Q, hQ⟩ : ∃ Q, Int.tdiv (cn + 1) 2 = Q := ⟨_, rfl⟩
  have hQb := tdiv_bound (cn + 1) (by omega)
  rw [hQ] at hQb
  have hex : exOf cn = max (Q - 1) 0 + 2 := by unfold exOf; rw [hQ]
  rw [hex] at t6
  have hwc : IntKind.i64.wrap (cn + 1) = cn + 1 := by rw [IntKind.wrap_i64]; omega
  have hwQ : IntKind.i64.wrap Q = Q := by rw [IntKind.wrap_i64]; omega
  have hwQ1 : IntKind.i64.wrap (Q - 1) = Q - 1 := by rw [IntKind.wrap_i64]; omega
  obtain ⟨M, hM⟩ : ∃ M, M = max (Q - 1) 0 := ⟨_, rfl⟩
  obtain ⟨fm, hfm⟩ : ∃ m, m = max (min fg fu) 0 := ⟨_, rfl⟩
  have HM : Hid (M = max (Q - 1) 0) := hM
  have HFM : Hid (fm = max (min fg fu) 0) := hfm
  have hMb : 0 ≤ M ∧ M ≤ 200 := by omega
  have hfmb : 0 ≤ fm ∧ fm ≤ 127 := by omega
  rw [← hM] at t6
  rw [← hfm] at t8
  clear hM hfm hex hb5 I1 I2 I3 I4 HE
  have hwM : IntKind.i64.wrap (M + 2) = M + 2 := by rw [IntKind.wrap_i64]; omega
  have hwf1 : IntKind.i64.wrap (2 * fm) = 2 * fm := by rw [IntKind.wrap_i64]; omega
  have hwf2 : IntKind.i64.wrap (2 * fm + 1) = 2 * fm + 1 := by rw [IntKind.wrap_i64]; omega
  go_upto_if 63 with fail
  go_cut [14] (fun s14 wx => s14 = .int .i64 (min fg fu) ∧ x5 = wx)
  case first =>
    by_cases hc : fu < fg
    · go_wp2_with fail
      go_meet
      exact ⟨by rw [show min fg fu = fu by omega], rfl⟩
    · have hc' : decide (fu < fg) = false := decide_eq_false hc
      go_wp2_with fail
      go_meet
      exact ⟨by rw [show min fg fu = fg by omega], rfl⟩
  case rest =>
    obtain ⟨rfl, rfl⟩ := hcut
    obtain ⟨mn, hmn⟩ : ∃ m, m = min fg fu := ⟨_, rfl⟩
    rw [← hmn]
    have HFN : Hid (fm = max mn 0) := by show _ = _; rw [HFM.out, hmn]
    clear hmn
    go_upto_if 68 with fail
    go_cut [14] (fun s14 wx => s14 = .int .i64 fm ∧ x5 = wx)
    case first =>
      by_cases hc : mn < 0
      · go_wp2_with fail
        go_meet
        exact ⟨by rw [HFN.out, show max mn 0 = 0 by omega], rfl⟩
      · have hc' : decide (mn < 0) = false := decide_eq_false hc
        go_wp2_with fail
        go_meet
        exact ⟨by rw [HFN.out, show max mn 0 = mn by omega], rfl⟩
    case rest =>
      obtain ⟨rfl, rfl⟩ := hcut
      go_upto_if 76 with fail
      go_cut [15] (fun s15 wx => s15 = .int .i64 M ∧ x5 = wx)
      case first =>
        by_cases hc : Q - 1 < 0
        · go_wp2_with fail
          go_meet
          exact ⟨by rw [HM.out, show max (Q - 1) 0 = 0 by omega], rfl⟩
        · have hc' : decide (Q - 1 < 0) = false := decide_eq_false hc
          go_wp2_with fail
          go_meet
          exact ⟨by rw [HM.out, show max (Q - 1) 0 = Q - 1 by omega], rfl⟩
      case rest =>
        obtain ⟨rfl, rfl⟩ := hcut
        clear hQ hwQ hwQ1 hwc hQb
        go_upto_if 132 with fail
        go_cut [2] (fun s2 wx => x5 = wx)
        case first =>
          go_wp2_with fail
          go_meet
          rfl
        case rest =>
          obtain rfl := hcut
          rename_i KK hKK
          refine hKK _ _ ?_
          exact fields_rest w.heap.size ib db dc g sb lb fg fu bs deg w x5 _ _ _ _ _ _ _ _ _ _ _ _ _ _ _ _ _ _ _ _ _ _ _ _ _ _ _ _ _ _ _ _ _ _ _ _ _ _ _ _ _ _ _ _ _ _ _ _ _ _ _ _ _ _ _ _ _ _ _ _ _ _ _ _ _ _ _ _ _ _ _ _ _ _ _ _ _ _ _ _ _ _ _ _ _ _ _ _ _ _ _ _ _ _ _ _ _ _ _ _ _ _ _ _ _ _ _ _ _ _ _ _ _ _ _ _ _ _ _ _ _ _ _ _ _ _ _ _ _ _ _ _ _ _ _ _ _ _ _ _ _ _ _ _ _ _ _ _ _ _ _ _ _ _ _ _ _ _ _ _ _ _ _ _ _ _ _ _ _ _ _ _ _ _ _ _ _ _ _ _ _ _ _ _ _ _ _ _ _ _ HB5' HB5'.out.size hg4 ww3 ww4 o8 o9 t10 t11 t7 ⟨HBS.out.1, HBS.out.2.1, fun a ha h1 h2 h3 => by rw [HDD.out a h3]; exact HBS.out.2.2.1 a ha h1 h2, HDL.out, fun x hx => by
            obtain ⟨a, ha, rfl⟩ := List.getElem_of_mem hx
            rw [HDD.out a ha]
            exact HD12.out a⟩ HNB HND

end YbulkaxksFmt
end Go.Proofs
