/-
  The walk of LawS2430BRoundTrip.
-/
import Derived.Test.YbulkaxhmFmtRoundKit
set_option linter.unusedVariables false
set_option linter.unusedSimpArgs false
namespace Go.Proofs
open Go.RowKit Go.Extern.Stop Go.Stop Go.Extern
namespace YbulkaxhmFmt

set_option maxHeartbeats 1600000 in
set_option maxRecDepth 100000 in
theorem round_ok (F : Interp) (ao : Option Addr) (ls : List Lab) (cap : Nat) (w : World) (hF : F.answers w.tape) (hn : ls.length ≤ 300) (hat : Hid (LabsAt w ao ls)) :
    Calls Ybaf.prog 3 #[.slice ao ls.length cap] w fun e w' => e = .returned (.bool true) ∧ Below w.heap.size w w' := by
  obtain ⟨i5, hi5, hz50, hz51, hz52⟩ := info_parts Ybaf.info5
  obtain ⟨i23, hi23, hz230, hz231, hz232⟩ := info_parts Ybaf.info23
  have hnd : decide ((300 : Int) < (ls.length : Int)) = false := by simp; omega
  go_enter Ybaf.func3, Ybaf.ntmps3
  go_wp2_with fail
  go_loop [23] (fun i => ∃ k : Nat, k ≤ ls.length ∧ i = .int .i64 k ∧ Hid (∀ j (hj : j < ls.length), j < k → small ls[j])) (fun i => ls.length - (intOf i).toNat)
  case atStart => exact ⟨0, by omega, rfl, fun j _ hj => absurd hj (Nat.not_lt_zero _)⟩
  case round =>
    obtain ⟨k, hk, rfl, hsm⟩ := hrel
    by_cases hlt : k < ls.length
    · obtain ⟨b, off, hao, hb, a1, a2, a3, a4, a5, a6, a7, a8, a9⟩ := hat.out k hlt
      subst hao
      unfold maxLen at a7 a8
      clear a4 a9
      obtain ⟨l, hl⟩ : ∃ l, l = ls[k] := ⟨_, rfl⟩
      rw [← hl] at a1 a2 a3 a5 a6 a7 a8
      have HL : Hid (l = ls[k]) := hl
      clear hl
      by_cases h1 : l.oct.size ≤ 300
      · have t1 : decide ((300 : Int) < (l.oct.size : Int)) = false := by simp; omega
        by_cases h2 : l.modes.length ≤ 300
        · have t2 : decide ((300 : Int) < (l.modes.length : Int)) = false := by simp; omega
          go_wp2
          go_round
          case rel =>
            refine ⟨k + 1, by omega, by go_num, fun j hj hjk => ?_⟩
            by_cases hjk' : j < k
            · exact hsm.out j hj hjk'
            · obtain rfl : j = k := by omega
              rw [← HL.out]; exact ⟨h1, h2⟩
          case measure => simp [intOf]; omega
        · have t2 : decide ((300 : Int) < (l.modes.length : Int)) = true := by simp; omega
          go_wp2
          go_ret
          exact ⟨rfl, Below.refl _ _⟩
      · have t1 : decide ((300 : Int) < (l.oct.size : Int)) = true := by simp; omega
        go_wp2
        go_ret
        exact ⟨rfl, Below.refl _ _⟩
    · have Hsm : Hid (∀ j (hj : j < ls.length), small ls[j]) := fun j hj => hsm.out j hj (by omega)
      clear hsm
      go_wp2_with fail
      go_loopw [4, 5, 6, 7, 45] (fun tv rv wl bad i wr => RRel w ls tv rv wl bad i wr) (fun _ _ _ _ i _ => ls.length - (intOf i).toNat)
      case atStart => exact ⟨0, [], 1, false, [], by omega, rfl, rfl, rfl, ⟨rfl, rfl, rfl⟩, by omega, Nat.le_refl _, Bytes.nil _ _, World.ownsRow_nil _ _ _ _, fun j hj => absurd hj (Nat.not_lt_zero _), Below.refl _ _⟩
      case round =>
        obtain ⟨k2, rvs, wn, bd, T, hk2, rfl, rfl, rfl, HE, hwn, hTl, htx, hraws, hrv, hbel⟩ := hrel
        by_cases hlt2 : k2 < ls.length
        · obtain ⟨b, off, hao, hb, a1, a2, a3, a4, a5, a6, a7, a8, a9⟩ := hat.out.later hbel k2 hlt2
          subst hao
          obtain ⟨l, hl⟩ : ∃ l, l = ls[k2] := ⟨_, rfl⟩
          rw [← hl] at a1 a2 a3 a4 a5 a6 a7 a8 a9
          have HL : Hid (l = ls[k2]) := hl
          have hsml := Hsm.out k2 hlt2
          rw [← hl] at hsml
          have HI : Hid (IntsAt w .u8 l.mao l.modes) := by
            obtain ⟨_, _, _, _, _, _, _, c4, _⟩ := hat.out k2 hlt2
            rw [← hl] at c4; exact c4
          have HZ : Hid (∀ z ∈ l.modes, 0 ≤ z ∧ z ≤ 255) := a9
          clear a4 a9 hl
          unfold maxLen at a7 a8
          obtain ⟨hs1, hs2⟩ := hsml
          obtain ⟨capr, wp, hcv, hrow, hgr⟩ := conv_row (wr.alloc (.cells #[.string l.oct, .int .u8 l.pad, .slice l.mao l.modes.length l.mcap] 25)) l.oct hs1
          have hszp : wr.heap.size + 1 < wp.heap.size := by have := hgr.size; have := (hrow.lt _ rfl).2; simp at this; omega
          obtain ⟨x1, x2⟩ := box_cells hgr
          simp only [World.size_alloc] at hcv hrow
          go_wp2_with fail
          obtain ⟨wo, rfl⟩ : ∃ wo : World, wo = wr := ⟨_, rfl⟩
          go_loopw [10, 12] (fun rawv kv wr => PadRel wp (wo.heap.size + 1) l rawv kv wr) (fun _ kv _ => (l.pad % 80).toNat - (intOf kv).toNat)
          case atStart => exact ⟨0, by omega, rfl, by simpa using hrow, by simp [Value.ownBlock], Below.refl _ _⟩
          case round =>
            obtain ⟨q, hq, rfl, hrw, hnn, hbq⟩ := hrel
            by_cases hql : (q : Int) < l.pad % 80
            · obtain ⟨rao, rcap, rfl⟩ := hrw.form
              have hsrc := Src.ofSlice (P := Ybaf.prog) (size := 1) (wr.alloc (.cells #[.int .u8 97] 5)) Ybaf.underlying23 ⟨wr.heap.size, 0, none⟩ 1 1 [.int .u8 97] rfl (news_alloc wr [.int .u8 97] 5) (ints_one [97])
              have hszq := hbq.size
              go_wp2_with (at_builtin; refine wpList_append_rowM _ rfl (.tmp 61) (.tmp 62) 23 23 rfl (wo.heap.size + 1) 5 i5 (.int .u8 0) 1 1 Ybaf.underlying23 hi5 hz50 hz51 hz52 rfl _ _ _ rfl (hrw.alloc _) _ 1 [.int .u8 97] rfl hsrc (by unfold maxLen; omega) (by omega) (by simp; omega) ?_)
              intro v' w1 ho hg hat'
              have R := pad_step hrw hbq ho hg hat' hnn (by omega)
              clear ho hg hat' hrw hbq hsrc
              go_wp2
              go_roundw
              case rel => exact ⟨q + 1, by omega, by go_num, R⟩
              case measure => simp [intOf]; omega
            · obtain ⟨w3, rfl⟩ : ∃ w3 : World, w3 = wr := ⟨_, rfl⟩
              have hqe : q = (l.pad % 80).toNat := by omega
              have hraw : RowM w3 (wo.heap.size + 1) 5 1 u10 (rawOf l).length (bvs (rawOf l)) := by
                rw [rawOf_length]; unfold rawOf; rw [← hqe]; exact hrw
              have hRl := rawOf_le l ⟨hs1, hs2⟩ a5
              have hwire := rounds_wire hlt2 HL.out
              have hbad := rounds_bad hlt2 HL.out
              have htext := rounds_text hlt2 HL.out
              obtain ⟨R, hR⟩ : ∃ R, R = rawOf l := ⟨_, rfl⟩
              rw [← hR] at hraw hRl hwire hbad htext
              have HR : Hid (R = rawOf l) := hR
              obtain ⟨rg, rcap, hu10, hrg1, hrg2⟩ := row_form_some hraw hnn
              subst hu10
              have hraw3 : RawAt w3 (.slice (some ⟨rg, 0, none⟩) R.length rcap) R := RawAt.of_row hraw rfl
              obtain ⟨tv0, rfl⟩ : ∃ x : Value, x = u4 := ⟨_, rfl⟩
              -- what was there, in the world behind the padding
              have hB3 : Below wo.heap.size wo w3 := ((below_of_grown (grown_alloc hgr) (fun _ h => by cases h) (Nat.le_refl _)).trans (hbq.mono (by omega)))
              have hg3 := grown_of_below hB3
              have htx3 : Bytes w3 w.heap.size tv0 T := htx.kept hg3 ne_none_of
              have hraws3 := hraws.kept hg3 ne_none_of
              have hlt4 : ∀ b, tv0.ownBlock = some b → b < wo.heap.size := fun b hb => (htx.lt b hb).2
              have HV3 : Hid (∀ j (hj : j < rvs.length) (hj2 : j < ls.length), RawAt w3 rvs[j] (rawOf ls[j]) ∧ rvs[j].ownBlock ≠ tv0.ownBlock) := fun j hj hj2 =>
                ⟨((hrv.out j hj hj2).1.kept hg3 (by obtain ⟨_, h, _⟩ := (hrv.out j hj hj2).1.lt; rw [h]; simp)), (hrv.out j hj hj2).2⟩
              have hbel3 : Below w.heap.size w w3 := hbel.trans (hB3.mono hbel.size)
              have hrne : (Value.slice (some ⟨rg, 0, none⟩) R.length rcap).ownBlock ≠ tv0.ownBlock := by
                intro e
                have := hlt4 rg e.symm
                omega
              have x23 : w3.cell? ⟨wo.heap.size, 2, none⟩ = some (.slice l.mao l.modes.length l.mcap) := (hbq.cell (p := ⟨wo.heap.size, 2, none⟩) (by simp)).trans x2
              have hsz3 : wo.heap.size + 1 < w3.heap.size := by have := hbq.size; omega
              have hsw : w.heap.size ≤ wo.heap.size := hbel.size
              have HB : Hid (tv0.ownBlock ≠ some wo.heap.size) := by intro e; have := hlt4 _ e; omega
              clear hgr htx hraws hrv hbel hrw hbq hcv hrow hnn hR hqe x1 x2 hB3 hg3 hraw
              have hbr : Hid (badB ((ls.take (k2 + 1)).map rawOf) = (badB ((ls.take k2).map rawOf) || badR R)) := hbad
              have HW : Hid (wireOf ((ls.take (k2 + 1)).map rawOf) = wireOf ((ls.take k2).map rawOf) + (1 + R.length)) := hwire
              have HT : Hid (textOf ((ls.take (k2 + 1)).map itemOf) = (textOf ((ls.take k2).map itemOf) ++ spell (modeOf l) 0 R) ++ [46]) := htext
              clear hbad hwire htext
              have hc3 : ((((R.length : Int) == 0) = true) ∧ Hid (true = badB ((ls.take (k2 + 1)).map rawOf))) ∨ (((((R.length : Int) == 0) = false) ∧ decide ((63 : Int) < (R.length : Int)) = true) ∧ Hid (true = badB ((ls.take (k2 + 1)).map rawOf))) ∨
                  (((((R.length : Int) == 0) = false) ∧ decide ((63 : Int) < (R.length : Int)) = false) ∧ Hid (bd = badB ((ls.take (k2 + 1)).map rawOf))) := by
                have e1 := hbr.out
                have e2 := HE.out.2.1
                rcases (show R.length = 0 ∨ (0 < R.length ∧ 63 < R.length) ∨ (0 < R.length ∧ R.length ≤ 63) from by omega) with hc | ⟨hc, hc2⟩ | ⟨hc, hc2⟩
                · exact .inl ⟨beq_iff_eq.2 (by omega), by rw [e1, badR_zero hc]; simp [Hid]⟩
                · exact .inr (.inl ⟨⟨beq_eq_false_iff_ne.2 (by omega), decide_eq_true (by omega)⟩, by rw [e1, badR_long hc2]; simp [Hid]⟩)
                · exact .inr (.inr ⟨⟨beq_eq_false_iff_ne.2 (by omega), decide_eq_false (by omega)⟩, by rw [e1, ← e2, badR_no hc hc2]; simp [Hid]⟩)
              clear hbr
              rcases hc3 with ⟨t1, HBD⟩ | ⟨⟨t1, t2⟩, HBD⟩ | ⟨⟨t1, t2⟩, HBD⟩
              all_goals
                go_wp2_with fail
                go_loopw [4, 13] (fun tv jv wr => OctRel w w3 l T tv0 tv jv wr) (fun _ jv _ => R.length - (intOf jv).toNat)
                case atStart => exact ⟨0, by omega, rfl, by simpa [spell] using htx3, World.grownBy.refl _ _, .inl rfl⟩
                case round =>
                  obtain ⟨j, hj, rfl, htx4, hg4, ht4⟩ := hrel
                  rw [← HR.out] at hj htx4
                  have hspl := spell_le (modeOf l) (R.take j) 0
                  have htkl : (R.take j).length ≤ j := List.length_take_le _ _
                  have hLl : (T ++ spell (modeOf l) 0 (R.take j)).length ≤ 460000 := by simp; omega
                  by_cases hjl : j < R.length
                  · have E := oct_step (modeOf l) T R j hjl
                    generalize hL : T ++ spell (modeOf l) 0 (R.take j) = L at htx4 hLl E
                    have HE2 : Hid _ := E
                    clear E hL hspl htkl
                    have hbel4 : Below w.heap.size w wr := hbel3.grown hg4 hbel3.size (fun k hk => (htx3.lt k hk).1)
                    have x24 : wr.cell? ⟨wo.heap.size, 2, none⟩ = some (.slice l.mao l.modes.length l.mcap) := (hg4.cell_far ⟨wo.heap.size, 2, none⟩ (by show wo.heap.size < _; omega) (fun e => HB.out e.symm)).trans x23
                    have hrc : wr.cell? ⟨rg, j, none⟩ = some (.int .u8 (R[j].toNat : Int)) := (hraw3.kept hg4 hrne).cell j hjl
                    by_cases hm : 0 < l.modes.length
                    · have t3 : decide ((0 : Int) < (l.modes.length : Int)) = true := decide_eq_true (by omega)
                      have HM : Hid _ := modeOf_pos hm j
                      have hjm := Nat.mod_lt j hm
                      obtain ⟨mb, mo, hmao, hmb, hmc⟩ := HI.out.later hbel4 (j % l.modes.length) hjm
                      have hzz := HZ.out _ (List.getElem_mem hjm)
                      generalize hz : l.modes[j % l.modes.length] = z at hmc hzz HM
                      obtain ⟨hz1, hz2⟩ := hzz
                      rw [hmao] at x24
                      have tm : ((l.modes.length : Int) == 0) = false := beq_eq_false_iff_ne.2 (by omega)
                      clear hz hmao
                      go_wp2_with fail
                      go_quiet (fail)
                      go_wp2_with fail
                      refine (put_any w.heap.size u4 L R[j] _ rfl z _ hz1 hz2 (show Bytes (wr.drewN nq) w.heap.size u4 L from htx4) (by omega) (show w.heap.size ≤ wr.heap.size from hbel4.size)).mono ?_
                      rintro e w' ⟨g', cap', rfl, ho, hgr', hat', hlt'⟩
                      have hgr2 : wr.grownBy w' u4.ownBlock := ⟨hgr'.os, hgr'.tape, hgr'.output, hgr'.size, hgr'.block⟩
                      have R4 : Hid _ := put_step hg4 ht4 hgr2 (show u4.ownBlock = some g' ∨ wr.heap.size ≤ g' from hat')
                      go_wp2
                      go_roundw
                      case rel => exact ⟨j + 1, by rw [← HR.out]; omega, by go_num, by rw [← HR.out, HE2.out, HM.out]; exact ho, R4.out _ _⟩
                      case measure => simp [intOf]; omega
                    · have t3 : decide ((0 : Int) < (l.modes.length : Int)) = false := decide_eq_false (by omega)
                      have HM : Hid (modeOf l j = 0) := modeOf_zero (by omega) j
                      go_wp2_with fail
                      refine (put_any w.heap.size u4 L R[j] _ rfl 0 _ (by decide) (by decide) htx4 (by omega) hbel4.size).mono ?_
                      rintro e w' ⟨g', cap', rfl, ho, hgr', hat', hlt'⟩
                      have R4 : Hid _ := put_step hg4 ht4 hgr' hat'
                      go_wp2
                      go_roundw
                      case rel => exact ⟨j + 1, by rw [← HR.out]; omega, by go_num, by rw [← HR.out, HE2.out, HM.out]; exact ho, R4.out _ _⟩
                      case measure => simp [intOf]; omega
                  · have hje : j = R.length := by omega
                    subst hje
                    rw [List.take_length] at htx4 hLl
                    generalize hL : T ++ spell (modeOf l) 0 R = L at htx4 hLl
                    have HL2 : Hid (L = T ++ spell (modeOf l) 0 R) := hL.symm
                    have hLl2 : L.length ≤ 1521 * k2 + 1520 := by
                      have := spell_le (modeOf l) R 0
                      rw [← hL]; simp; omega
                    clear hL hspl htkl
                    have hrvk : rvs.length ≤ ls.length := by have := hraws3.1; omega
                    obtain ⟨p1, p2, p3, p4, p5⟩ := octs_done (rs := fun j => if h : j < ls.length then rawOf ls[j] else []) htx3 hraws3 (fun j hj => by rw [dif_pos (by omega)]; exact HV3.out j hj (by omega)) hraw3 hrne hbel3 hg4 ht4
                    obtain ⟨tao2, tcap2, hu4⟩ := row_form htx4
                    subst hu4
                    have hn := news_alloc wr [.int .u8 46] 5
                    have hsz4 := p5.size
                    have P1 : Hid _ := p1
                    have P2 : Hid _ := p2
                    clear p1 p2 htx3 hraws3 hraw3 hrne hbel3 hg4 ht4
                    go_wp2_with (at_builtin; refine wpList_append_lies _ rfl (.tmp 103) (.tmp 104) 23 rfl w.heap.size 5 i5 (.int .u8 0) 1 1 Ybaf.underlying23 hi5 hz50 hz51 hz52 rfl (by decide) _ _ _ rfl (htx4.alloc _) ⟨wr.heap.size, 0, none⟩ 1 1 [.int .u8 46] rfl rfl hn (ints_one [46]) (by decide) (by unfold maxLen; omega) (by omega) (by simp; omega) (wr.heap.size + 1) (by simp) ?_)
                    intro g5 cap5 w5 ho5 hg5 hat5 hlt5
                    obtain ⟨q1, q2, q3, q4, q5, q6⟩ := dot_done htx4 P1.out P2.out p3 p4 p5 ho5 hg5 hat5
                    have Q3 : Hid _ := q3
                    obtain ⟨rao5, rcap5, hu5⟩ := row_form q2
                    subst hu5
                    have hn5 := news_alloc w5 [.slice (some ⟨rg, 0, none⟩) R.length rcap] 23
                    have hsz5 := q6.size
                    clear ho5 hg5 hat5 htx4 p3 p4 p5 P1 P2 q3 hn
                    go_wp2_with (at_builtin; refine wpList_append_lies _ rfl (.tmp 106) (.tmp 108) 26 rfl w.heap.size 23 i23 (.slice none 0 0) 1 24 Ybaf.underlying26 hi23 hz230 hz231 hz232 rfl (by decide) _ _ _ rfl (q2.alloc _) ⟨w5.heap.size, 0, none⟩ 1 1 [.slice (some ⟨rg, 0, none⟩) R.length rcap] rfl rfl hn5 (by intro u hu; simp at hu; subst hu; rfl) (by decide) (by unfold maxLen; omega) (by omega) (by simp; omega) (w5.heap.size + 1) (by simp) ?_)
                    intro g6 cap6 w6 ho6 hg6 hat6 hlt6
                    obtain ⟨r1, r2, r3⟩ := raws_done q1 q2 Q3.out q4 q5 q6 (by rw [dif_pos hlt2, ← HL.out]; exact HR.out.symm) ho6 hg6
                    have R2 : Hid _ := r2
                    clear hg6 hat6 q1 q2 Q3 q4 q5 q6 r2 hn5
                    go_wp2
                    go_roundw
                    case rel =>
                      refine ⟨k2 + 1, rvs ++ [_], wn + (1 + R.length), _, L ++ [46], by omega, by go_num, by go_num, rfl, ⟨by rw [HW.out, HE.out.1]; omega, HBD.out, by rw [HT.out, HL2.out, ← HE.out.2.2]⟩, by omega, by simp; omega, by simpa using r1, ho6, ?_, r3⟩
                      intro j hj hj2
                      have := R2.out j hj
                      rw [dif_pos hj2] at this
                      exact this
                    case measure => simp [intOf]; omega
        · have hke : k2 = ls.length := by omega
          subst hke
          have HE' := HE.out
          rw [List.take_length] at HE'
          obtain ⟨e1, e2, e3⟩ := HE'
          have E1 : Hid (wn = 1 + wireOf (ls.map rawOf)) := e1
          have E2 : Hid (bd = badB (ls.map rawOf)) := e2
          have E3 : Hid (T = textOf (ls.map itemOf)) := e3
          by_cases hA : ls.length = 0
          · have hls : ls = [] := List.eq_nil_of_length_eq_zero hA
            have hwn1 : wn ≤ 1 := by rw [e1, hls]; simp [wireOf]
            have hT0 : T = [] := by rw [e3, hls]; rfl
            clear e1 e2 e3 HE
            subst hT0
            have tA : ((ls.length : Int) == 0) = true := beq_iff_eq.2 (by omega)
            have tw : decide ((255 : Int) < (wn : Int)) = false := decide_eq_false (by omega)
            obtain ⟨tao, tcap, hu4⟩ := row_form htx
            subst hu4
            have hn := news_alloc wr [.int .u8 46] 5
            have hsz2 := hbel.size
            go_wp2_with (at_builtin; refine wpList_append_lies _ rfl (.tmp 116) (.tmp 117) 23 rfl w.heap.size 5 i5 (.int .u8 0) 1 1 Ybaf.underlying23 hi5 hz50 hz51 hz52 rfl (by decide) _ _ _ rfl (htx.alloc _) ⟨wr.heap.size, 0, none⟩ 1 1 [.int .u8 46] rfl rfl hn (ints_one [46]) (by decide) (by decide) (by decide) (by simp; omega) (wr.heap.size + 1) (by simp) ?_)
            intro g2 cap2 w3 ho hgr hat' hlt'
            obtain ⟨hby, hbel'⟩ := step_dot htx hbel ho hgr
            clear ho hgr htx hn
            have hcv : (convert 23 9 (.slice (some ⟨g2, 0, none⟩) 1 cap2)).run Ybaf.prog w3 = .ok (.string ⟨#[46]⟩) w3 := bytes_string hby
            clear hby
            go_wp2_with fail
            refine (parse_any F ⟨#[46]⟩ _ (by show F.answers w3.tape; rw [hbel'.tape]; exact hF) (by decide)).mono ?_
            rintro e w2 ⟨v2, er2, rfl, hb2, hcase2⟩
            rcases hcase2 with ⟨ns2, hp2, rfl, hstr2⟩ | ⟨hp2, _⟩
            · have hns : ns2 = [] := by
                have h46 : parse ([46] : List UInt8) = some [] := rfl
                simp only [] at hp2; rw [h46] at hp2; exact (Option.some.inj hp2).symm
              subst hns
              obtain ⟨ao2, cap2, rfl⟩ := row_form hstr2
              clear hp2 hstr2
              go_wp2
              go_ret
              exact ⟨rfl, hbel'.trans (hb2.mono hbel'.size)⟩
            · have h46 : parse ([46] : List UInt8) = some [] := rfl
              simp only [] at hp2
              rw [h46] at hp2; cases hp2
          · have tA : ((ls.length : Int) == 0) = false := beq_eq_false_iff_ne.2 (by omega)
            have hpos : 0 < T.length := by rw [e3]; exact text_pos (by omega)
            clear e1 e2 e3 HE
            obtain ⟨tg, tcap, hte, _, _⟩ := htx.form hpos
            subst hte
            have hcv := bytes_string htx
            obtain ⟨rg, rcap, hu5, hrg1, hrg2⟩ := hraws.form (by omega)
            subst hu5
            have hrl : rvs.length = ls.length := by have := hraws.1; omega
            have Hcell : Hid (∀ j (hj : j < ls.length), ∃ g cap, wr.cell? ⟨rg, j, none⟩ = some (.slice (some ⟨g, 0, none⟩) (rawOf ls[j]).length cap) ∧ RawAt wr (.slice (some ⟨g, 0, none⟩) (rawOf ls[j]).length cap) (rawOf ls[j]) ∧ g < wr.heap.size) := by
              intro j hj
              obtain ⟨hr, _⟩ := hrv.out j (by omega) hj
              obtain ⟨g, cap, hv⟩ := hr.form
              obtain ⟨g', hg', hlt'⟩ := hr.lt
              rw [hv] at hr hg'
              simp [Value.ownBlock] at hg'
              subst hg'
              refine ⟨g, cap, ?_, hr, hlt'⟩
              rw [← hv, ← add_zero_off]
              exact World.ownsRow.cells hraws (g := rg) rfl j _ (List.getElem?_eq_getElem (by omega))
            have hTb : T.length ≤ 460000 := by omega
            clear hraws hrv htx
            have hc3 : (decide ((255 : Int) < (wn : Int)) = true) ∨ (decide ((255 : Int) < (wn : Int)) = false ∧ bd = true) ∨ (decide ((255 : Int) < (wn : Int)) = false ∧ bd = false) := by
              cases bd <;> by_cases hw : (255 : Int) < (wn : Int) <;> simp [hw]
            have hc4 : (decide ((255 : Int) < (wn : Int)) = true ∧ Hid ((ls.length = 1 → ∀ h0 : 0 < ls.length, (rawOf ls[0]).length ≠ 0) → parse T = none)) ∨ ((decide ((255 : Int) < (wn : Int)) = false ∧ bd = true) ∧ Hid ((ls.length = 1 → ∀ h0 : 0 < ls.length, (rawOf ls[0]).length ≠ 0) → parse T = none)) ∨ ((decide ((255 : Int) < (wn : Int)) = false ∧ bd = false)) := by
              have e1 := E1.out
              have e2 := E2.out
              have e3 := E3.out
              rcases hc3 with tw | ⟨tw, hbd⟩ | ⟨tw, hbd⟩
              · refine .inl ⟨tw, fun h1 => ?_⟩
                have := of_decide_eq_true tw
                rw [e3, parse_items (by omega) h1, if_neg (by intro hh; have := hh.2; omega)]
              · refine .inr (.inl ⟨⟨tw, hbd⟩, fun h1 => ?_⟩)
                rw [e3, parse_items (by omega) h1, if_neg (by intro hh; exact badB_bad (by rw [← e2]; exact hbd) hh.1)]
              · exact .inr (.inr ⟨tw, hbd⟩)
            have Hone : Hid (((ls.length : Int) == 1) = false ∨ (((ls.length : Int) == 1) = true ∧ ∃ n0 : Nat, n0 = (rawOf (ls[0]'(by omega))).length ∧ ((n0 : Int) == 0) = false) ∨ (((ls.length : Int) == 1) = true ∧ ∃ n0 : Nat, n0 = (rawOf (ls[0]'(by omega))).length ∧ ((n0 : Int) == 0) = true)) := by
              by_cases h1 : ls.length = 1
              · right
                by_cases h2 : (rawOf (ls[0]'(by omega))).length = 0
                · exact .inr ⟨beq_iff_eq.2 (by omega), _, rfl, beq_iff_eq.2 (by omega)⟩
                · exact .inl ⟨beq_iff_eq.2 (by omega), _, rfl, beq_eq_false_iff_ne.2 (by omega)⟩
              · exact .inl (beq_eq_false_iff_ne.2 (by omega))
            clear hc3
            rcases hc4 with ⟨tw, HN⟩ | ⟨⟨tw, hbd⟩, HN⟩ | ⟨tw, hbd⟩
            rotate_left 2
            · subst hbd
              have hgood := badB_good E2.out.symm
              have hwle := of_decide_eq_false tw
              have hp : parse T = some (ls.map rawOf) := by
                have e1 := E1.out
                rw [E3.out, parse_items (by omega) (fun h1 h0 h2 => (hgood (rawOf ls[0]) (List.mem_map.2 ⟨_, List.getElem_mem h0, rfl⟩)).1 (List.eq_nil_of_length_eq_zero h2)), if_pos ⟨hgood, by omega⟩]
              have Hp : Hid (parse T = some (ls.map rawOf)) := hp
              have Hg : Hid (∀ r ∈ ls.map rawOf, r ≠ [] ∧ r.length ≤ 63) := hgood
              clear hp hgood
              go_wp2_with fail
              refine (parse_any F ⟨T.toArray⟩ _ (by show F.answers wr.tape; rw [hbel.tape]; exact hF) (by show T.length ≤ _; omega)).mono ?_
              rintro e w2 ⟨v2, er2, rfl, hb2, hcase2⟩
              rcases hcase2 with ⟨ns2, hp2, rfl, hstr2⟩ | ⟨hp2, _⟩
              · have hns : ns2 = ls.map rawOf := by have := Hp.out; simp only [] at hp2; rw [hp2] at this; exact Option.some.inj this
                have hnl : ns2.length = ls.length := by rw [hns]; simp
                obtain ⟨ao2, cap2, rfl⟩ := row_form hstr2
                have Hat2 : Hid (StrsAt w2 ao2 ns2) := strs_at hstr2
                have Hns : Hid (ns2 = ls.map rawOf) := hns
                have t5 : ((ns2.length : Int) != (ls.length : Int)) = false := by rw [hnl]; simp
                have hnl2 : ls.length ≤ ns2.length := by omega
                clear hp2 hstr2 hns hnl
                rcases Hone.out with t1 | ⟨t1, n0, hn0, t2⟩ | ⟨t1, n0, hn0, t2⟩
                rotate_left 2
                · exfalso
                  have h2 : (rawOf (ls[0]'(by omega))).length = 0 := by rw [← hn0]; simpa using t2
                  exact (Hg.out (rawOf (ls[0]'(by omega))) (List.mem_map.2 ⟨_, List.getElem_mem _, rfl⟩)).1 (List.eq_nil_of_length_eq_zero h2)
                rotate_left 1
                · obtain ⟨g0, cap0, hc0, _, hg0⟩ := Hcell.out 0 (by omega)
                  have hc0' : w2.cell? ⟨rg, 0, none⟩ = some (.slice (some ⟨g0, 0, none⟩) n0 cap0) := by rw [hn0]; exact (hb2.cell (p := ⟨rg, 0, none⟩) hrg2).trans hc0
                  clear hc0 hn0
                  go_wp2_with fail
                  obtain ⟨wt, rfl⟩ : ∃ x : World, x = wr := ⟨_, rfl⟩
                  go_loopw [161] (fun i wr => ∃ m : Nat, m ≤ ls.length ∧ i = .int .i64 m ∧ Below w2.heap.size w2 wr) (fun i _ => ls.length - (intOf i).toNat)
                  case atStart => exact ⟨0, by omega, rfl, Below.refl _ _⟩
                  case round =>
                    obtain ⟨m, hm, rfl, hbel3⟩ := hrel
                    by_cases hml : m < ls.length
                    · obtain ⟨g1, hao1, hg1, hc1⟩ := strsAt_later Hat2.out hbel3 m (by omega)
                      subst hao1
                      obtain ⟨g2, cap3, hc2, hraw2, hg2⟩ := Hcell.out m hml
                      have hB : Below wt.heap.size wt wr := hb2.trans (hbel3.mono hb2.size)
                      have hc2' : wr.cell? ⟨rg, m, none⟩ = some (.slice (some ⟨g2, 0, none⟩) (rawOf ls[m]).length cap3) := (hB.cell (p := ⟨rg, m, none⟩) hrg2).trans hc2
                      have hraw3 : RawAt wr (.slice (some ⟨g2, 0, none⟩) (rawOf ls[m]).length cap3) (rawOf ls[m]) := hraw2.kept (grown_of_below hB) (by simp [Value.ownBlock])
                      have hc1' : wr.cell? ⟨g1, m, none⟩ = some (.string ⟨(rawOf ls[m]).toArray⟩) := by
                        rw [hc1]
                        have : ns2[m]'(by omega) = rawOf ls[m] := by simp [Hns.out]
                        rw [this]; rfl
                      have hcvm := fun nq => RawAt.string (w := wr.drewN nq) hraw3
                      have hcvm0 := RawAt.string hraw3
                      clear hc1 hc2 hraw2 hraw3 hB
                      generalize rawOf ls[m] = X at hc1' hc2' hcvm hcvm0
                      go_wp2_with fail
                      go_quiet (fail)
                      go_wp2_with fail
                      go_roundw
                      case rel => exact ⟨m + 1, by omega, by go_num, below_drewN hbel3 _⟩
                      case measure => simp [intOf]; omega
                    · go_wp2
                      go_ret
                      exact ⟨rfl, hbel.trans ((hb2.trans (hbel3.mono hb2.size)).mono hbel.size)⟩
                · go_wp2_with fail
                  obtain ⟨wt, rfl⟩ : ∃ x : World, x = wr := ⟨_, rfl⟩
                  go_loopw [161] (fun i wr => ∃ m : Nat, m ≤ ls.length ∧ i = .int .i64 m ∧ Below w2.heap.size w2 wr) (fun i _ => ls.length - (intOf i).toNat)
                  case atStart => exact ⟨0, by omega, rfl, Below.refl _ _⟩
                  case round =>
                    obtain ⟨m, hm, rfl, hbel3⟩ := hrel
                    by_cases hml : m < ls.length
                    · obtain ⟨g1, hao1, hg1, hc1⟩ := strsAt_later Hat2.out hbel3 m (by omega)
                      subst hao1
                      obtain ⟨g2, cap3, hc2, hraw2, hg2⟩ := Hcell.out m hml
                      have hB : Below wt.heap.size wt wr := hb2.trans (hbel3.mono hb2.size)
                      have hc2' : wr.cell? ⟨rg, m, none⟩ = some (.slice (some ⟨g2, 0, none⟩) (rawOf ls[m]).length cap3) := (hB.cell (p := ⟨rg, m, none⟩) hrg2).trans hc2
                      have hraw3 : RawAt wr (.slice (some ⟨g2, 0, none⟩) (rawOf ls[m]).length cap3) (rawOf ls[m]) := hraw2.kept (grown_of_below hB) (by simp [Value.ownBlock])
                      have hc1' : wr.cell? ⟨g1, m, none⟩ = some (.string ⟨(rawOf ls[m]).toArray⟩) := by
                        rw [hc1]
                        have : ns2[m]'(by omega) = rawOf ls[m] := by simp [Hns.out]
                        rw [this]; rfl
                      have hcvm := fun nq => RawAt.string (w := wr.drewN nq) hraw3
                      have hcvm0 := RawAt.string hraw3
                      clear hc1 hc2 hraw2 hraw3 hB
                      generalize rawOf ls[m] = X at hc1' hc2' hcvm hcvm0
                      go_wp2_with fail
                      go_quiet (fail)
                      go_wp2_with fail
                      go_roundw
                      case rel => exact ⟨m + 1, by omega, by go_num, below_drewN hbel3 _⟩
                      case measure => simp [intOf]; omega
                    · go_wp2
                      go_ret
                      exact ⟨rfl, hbel.trans ((hb2.trans (hbel3.mono hb2.size)).mono hbel.size)⟩
              · have := Hp.out
                simp only [] at hp2
                rw [hp2] at this; cases this
            · skip
              go_wp2_with fail
              refine (parse_any F ⟨T.toArray⟩ _ (by show F.answers wr.tape; rw [hbel.tape]; exact hF) (by show T.length ≤ _; omega)).mono ?_
              rintro e w2 ⟨v2, er2, rfl, hb2, hcase2⟩
              rcases Hone.out with t1 | ⟨t1, n0, hn0, t2⟩ | ⟨t1, n0, hn0, t2⟩
              · have hp := HN.out (fun h1 => by rw [h1] at t1; simp at t1)
                rcases hcase2 with ⟨ns2, hp2, rfl, hstr2⟩ | ⟨hp2, ⟨ea, es, rfl, _, _⟩⟩
                · simp only [] at hp2; rw [hp] at hp2; cases hp2
                · clear hp hp2
                  go_wp2
                  go_ret
                  exact ⟨rfl, hbel.trans (hb2.mono hbel.size)⟩
              · have hp := HN.out (fun h1 h0 => by rw [← hn0]; simpa using t2)
                obtain ⟨g0, cap0, hc0, _, hg0⟩ := Hcell.out 0 (by omega)
                have hc0' : w2.cell? ⟨rg, 0, none⟩ = some (.slice (some ⟨g0, 0, none⟩) n0 cap0) := by rw [hn0]; exact (hb2.cell (p := ⟨rg, 0, none⟩) hrg2).trans hc0
                rcases hcase2 with ⟨ns2, hp2, rfl, hstr2⟩ | ⟨hp2, ⟨ea, es, rfl, _, _⟩⟩
                · simp only [] at hp2; rw [hp] at hp2; cases hp2
                · clear hp hp2 hc0 hn0
                  go_wp2
                  go_ret
                  exact ⟨rfl, hbel.trans (hb2.mono hbel.size)⟩
              · have hp : parse T = some [] := by
                  rw [E3.out]; exact parse_empty (by have := beq_iff_eq.1 t1; omega) (by rw [← hn0]; simpa using t2)
                obtain ⟨g0, cap0, hc0, _, hg0⟩ := Hcell.out 0 (by omega)
                have hc0' : w2.cell? ⟨rg, 0, none⟩ = some (.slice (some ⟨g0, 0, none⟩) n0 cap0) := by rw [hn0]; exact (hb2.cell (p := ⟨rg, 0, none⟩) hrg2).trans hc0
                rcases hcase2 with ⟨ns2, hp2, rfl, hstr2⟩ | ⟨hp2, _⟩
                · have hns : ns2 = [] := by simp only [] at hp2; rw [hp] at hp2; exact (Option.some.inj hp2).symm
                  subst hns
                  obtain ⟨ao2, cap2, rfl⟩ := row_form hstr2
                  clear hp hp2 hstr2 hc0 hn0
                  go_wp2
                  go_ret
                  exact ⟨rfl, hbel.trans (hb2.mono hbel.size)⟩
                · simp only [] at hp2; rw [hp] at hp2; cases hp2
            · subst hbd
              go_wp2_with fail
              refine (parse_any F ⟨T.toArray⟩ _ (by show F.answers wr.tape; rw [hbel.tape]; exact hF) (by show T.length ≤ _; omega)).mono ?_
              rintro e w2 ⟨v2, er2, rfl, hb2, hcase2⟩
              rcases Hone.out with t1 | ⟨t1, n0, hn0, t2⟩ | ⟨t1, n0, hn0, t2⟩
              · have hp := HN.out (fun h1 => by rw [h1] at t1; simp at t1)
                rcases hcase2 with ⟨ns2, hp2, rfl, hstr2⟩ | ⟨hp2, ⟨ea, es, rfl, _, _⟩⟩
                · simp only [] at hp2; rw [hp] at hp2; cases hp2
                · clear hp hp2
                  go_wp2
                  go_ret
                  exact ⟨rfl, hbel.trans (hb2.mono hbel.size)⟩
              · have hp := HN.out (fun h1 h0 => by rw [← hn0]; simpa using t2)
                obtain ⟨g0, cap0, hc0, _, hg0⟩ := Hcell.out 0 (by omega)
                have hc0' : w2.cell? ⟨rg, 0, none⟩ = some (.slice (some ⟨g0, 0, none⟩) n0 cap0) := by rw [hn0]; exact (hb2.cell (p := ⟨rg, 0, none⟩) hrg2).trans hc0
                rcases hcase2 with ⟨ns2, hp2, rfl, hstr2⟩ | ⟨hp2, ⟨ea, es, rfl, _, _⟩⟩
                · simp only [] at hp2; rw [hp] at hp2; cases hp2
                · clear hp hp2 hc0 hn0
                  go_wp2
                  go_ret
                  exact ⟨rfl, hbel.trans (hb2.mono hbel.size)⟩
              · have hp : parse T = some [] := by
                  rw [E3.out]; exact parse_empty (by have := beq_iff_eq.1 t1; omega) (by rw [← hn0]; simpa using t2)
                obtain ⟨g0, cap0, hc0, _, hg0⟩ := Hcell.out 0 (by omega)
                have hc0' : w2.cell? ⟨rg, 0, none⟩ = some (.slice (some ⟨g0, 0, none⟩) n0 cap0) := by rw [hn0]; exact (hb2.cell (p := ⟨rg, 0, none⟩) hrg2).trans hc0
                rcases hcase2 with ⟨ns2, hp2, rfl, hstr2⟩ | ⟨hp2, _⟩
                · have hns : ns2 = [] := by simp only [] at hp2; rw [hp] at hp2; exact (Option.some.inj hp2).symm
                  subst hns
                  obtain ⟨ao2, cap2, rfl⟩ := row_form hstr2
                  clear hp hp2 hstr2 hc0 hn0
                  go_wp2
                  go_ret
                  exact ⟨rfl, hbel.trans (hb2.mono hbel.size)⟩
                · simp only [] at hp2; rw [hp] at hp2; cases hp2

end YbulkaxhmFmt
end Go.Proofs
