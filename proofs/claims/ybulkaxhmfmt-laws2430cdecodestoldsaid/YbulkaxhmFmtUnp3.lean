/-
  Unpack: the records.
-/
import Derived.Test.YbulkaxhmFmtUnp0
set_option linter.unusedVariables false
set_option linter.unusedSimpArgs false
namespace Go.Proofs.YbulkaxhmFmt
open Go.Extern.Stop Go.Stop Go.Extern Go.RowKit

set_option maxRecDepth 1000000 in
set_option maxHeartbeats 1000000 in
theorem part27 (F : Interp) (B mb mg n cap pb off N : Nat) (fl : UInt8) (qs : List MQ) (rs : List RRec) (no nopt : Nat) (ps : List (Nat × List UInt8)) (r : Bool) (qv ov lv : Value) (qxs lxs : List Value) (w wb : World)
    (u3 u4 u5 u7 u8 u9 u11 u12 u13 u14 u15 u16 u17 u18 u19 u20 u21 u22 u23 u24 u25 u26 u27 u28 u29 u30 u31 u32 u33 u34 u35 u36 u37 u38 u39 u40 u41 u42 u43 u44 u45 u46 u47 u48 u49 u50 u51 u52 u53 u54 u55 u56 u57 u58 u59 u60 u61 u62 u63 u64 u65 u66 u67 u68 u69 u70 u71 u72 u73 u74 u75 u76 u77 u78 u79 u80 u81 u82 u83 u84 u85 u86 u87 u88 u89 u90 u91 u92 u93 u94 u95 u96 u97 u98 u99 u100 u101 u102 u103 u104 u105 u106 u107 u108 u109 u110 u111 u112 u113 u114 u115 u116 u117 u118 u119 u120 u121 u122 u123 u124 u125 u126 u127 u128 u129 u130 u131 u132 u133 u134 u135 u136 u137 u138 u139 u140 u141 u142 u143 u144 u145 u146 u147 u148 u149 u150 u151 u152 u153 u154 u155 u156 u157 u158 u159 u160 u161 u162 u163 u164 u165 u166 u167 u168 u169 u170 u171 u172 u173 u174 u175 u176 u177 u178 u179 u180 u181 u182 u183 u184 u185 u186 u187 u188 u189 u190 u191 u192 u193 : Value)
    (hr : Hid (r = qrBit fl)) (hF : F.answers w.tape) (hW : Hid (WF qs rs no nopt ps)) (hmg : mg < B) (hM : Hid (BytesAt w mg 0 (MB fl qs rs no nopt))) (hn : n ≤ 200000) (hnM : n ≤ (MB fl qs rs no nopt).length) (hcap : n ≤ cap) (hcm : cap ≤ 9223372036854775807) (hN : Hid (N = no + nopt))
    (hbel : Below B w wb) (hown : Own wb B (LM mb r qv ov lv qs.length qxs 0 [] lxs)) (hsz : B ≤ wb.heap.size) (hp : wb.cell? ⟨pb, 0, none⟩ = some (.pointer (some ⟨mb, 0, none⟩))) (hpS : Safe (LM mb r qv ov lv qs.length qxs 0 [] lxs) ⟨pb, 0, none⟩)
    (hoff : Hid (off = 12 + (encQs qs).length)) (hoffn : off ≤ n) (hQ : Hid (QNames wb (LM mb r qv ov lv qs.length qxs 0 [] lxs) qs qxs)) :
    Code.wp Ybaf.prog code27 (bodyPost Ybaf.prog Ybaf.f12 (Unp B mb mg n fl qs rs no nopt ps w)) ⟨#[.pointer (some ⟨mb, 0, none⟩), .slice (some ⟨mg, 0, none⟩) n cap, .pointer (some ⟨pb, 0, none⟩), u3, u4, u5, .int .i64 (N : Int), u7, u8, u9, .int .i64 (off : Int), u11, u12, u13, u14, u15, u16, u17, u18, u19, u20, u21, u22, u23, u24, u25, u26, u27, u28, u29, u30, u31, u32, u33, u34, u35, u36, u37, u38, u39, u40, u41, u42, u43, u44, u45, u46, u47, u48, u49, u50, u51, u52, u53, u54, u55, u56, u57, u58, u59, u60, u61, u62, u63, u64, u65, u66, u67, u68, u69, u70, u71, u72, u73, u74, u75, u76, u77, u78, u79, u80, u81, u82, u83, u84, u85, u86, u87, u88, u89, u90, u91, u92, u93, u94, u95, u96, u97, u98, u99, u100, u101, u102, u103, u104, u105, u106, u107, u108, u109, u110, u111, u112, u113, u114, u115, u116, u117, u118, u119, u120, u121, u122, u123, u124, u125, u126, u127, u128, u129, u130, u131, u132, u133, u134, u135, u136, u137, u138, u139, u140, u141, u142, u143, u144, u145, u146, u147, u148, u149, u150, u151, u152, u153, u154, u155, u156, u157, u158, u159, u160, u161, u162, u163, u164, u165, u166, u167, u168, u169, u170, u171, u172, u173, u174, u175, u176, u177, u178, u179, u180, u181, u182, u183, u184, u185, u186, u187, u188, u189, u190, u191, u192, u193], []⟩ wb := by
  have hnl := hW.out.hno
  have hpl := hW.out.hnopt
  have hrsl := hW.out.hrs
  have hNl : N = rs.length := by rw [hN.out, hrsl]
  have hT := MB_length fl qs rs no nopt
  conv => arg 2; whnf
  go_wp2_with fail
  go_loopw [10, 15, 16] (fun a b c wr => RLRel B mb mg n r qs rs no ps qv lv qxs lxs wb (LM mb r qv ov lv qs.length qxs 0 [] lxs) a b c wr) (fun _ _ c _ => N - (intOf c).toNat)
  case atStart =>
    exact ⟨0, off, false, ov, 0, [], Nat.zero_le _, rfl, rfl, rfl, by rw [hoff.out]; simp [Hid, encRs], hoffn, by omega, by simp [Hid], Goes.refl hown hsz, ⟨fun h => absurd h (Nat.not_lt_zero _), fun _ => ⟨rfl, rfl⟩⟩⟩
  case round =>
    obtain ⟨i, o, seen, ov1, no1, oxs1, hil, rfl, rfl, rfl, HO, hon, hi1, HS, gW, HP⟩ := hrel
    obtain ⟨hp1, hpS1⟩ := gW.safe _ _ hp hpS
    by_cases hi : i < N
    · have hi' : i < rs.length := by omega
      have hrk := hW.out.rok rs[i] (List.getElem_mem hi')
      obtain ⟨c0, ⟨c1, c2⟩, ⟨c9, c10⟩, hrd⟩ := r_bytes (hM.out.below (hbel.trans gW.below) hmg) hi' hrk HO.out
      have hle := encRs_le hi' hrk.1
      have hr1 := hW.out.r1 i hi'
      have htk := encRs_take hi' hrk.1
      obtain ⟨ty, hty⟩ : ∃ t, t = rs[i].ty := ⟨_, rfl⟩
      obtain ⟨L, hL⟩ : ∃ l, l = rs[i].rd.length := ⟨_, rfl⟩
      rw [← hty] at c1 c2 hrk hr1
      rw [← hL] at c9 c10 hrk hle htk
      have HL : Hid (L = rs[i].rd.length) := hL
      have hoT : o + (11 + L) ≤ (MB fl qs rs no nopt).length := by have := HO.out; omega
      have HTK : Hid ((encRs (rs.take (i + 1))).length = (encRs (rs.take i)).length + (11 + L)) := htk
      have HRD : Hid (BytesAt wr mg (o + 11) rs[i].rd) := hrd
      have HR1 : Hid ((i < no → ty ≠ 41) ∧ (no ≤ i → ty = 41)) := hr1
      have hty6 := hrk.2.1
      have hL6 := hrk.2.2
      clear hty hL htk hrd hr1 hle hrk
      have HTY : Hid (256 * ((ty / 256 : Nat) : Int) + ((ty % 256 : Nat) : Int) = ty) := by show _ = _; omega
      have hrr := rr_any mg n cap o ((ty / 256 : Nat) : Int) ((ty % 256 : Nat) : Int) ((L / 256 : Nat) : Int) ((L % 256 : Nat) : Int) L wr (by omega) (by omega) hcap (by unfold maxLen; omega) (fun _ => c0) (fun _ => c1) (fun _ => c2) (fun _ => c9) (fun _ => c10) (by omega) (by omega) (by omega) (by omega) (by omega) (by omega) (by omega) (by omega) (by omega)
      rw [HTY.out] at hrr
      clear c0 c1 c2 c9 c10
      by_cases hov : o + 11 + L ≤ n
      · have hr1 := hrr.mono (R' := fun e w' => wr.grownBy w' none ∧ ∃ o', (0 < L → o' = o + 11) ∧ e = .returned (.tuple #[.int .u16 (ty : Int), .slice (some ⟨mg, o', none⟩) L (cap - (o + 11)), .int .i64 ((o + 11 + L : Nat) : Int), .nilIface])) (by rintro e w' ⟨g, h | h⟩; exact ⟨g, h.2⟩; omega)
        clear hrr
        by_cases h41 : ty = 41
        · subst h41
          have hnoi : no ≤ i := by
            rcases Nat.lt_or_ge i no with h | h
            · exact absurd rfl (HR1.out.1 h)
            · exact h
          by_cases hse : no < i
          · have hst : seen = true := by rw [HS.out]; exact decide_eq_true hse
            subst hst
            go_wp2_with (first | (go_at_call 22; refine hr1.mono ?_; rintro e w2 ⟨g2, o', ho', rfl⟩) | (go_at_call 14; refine (errorsNew_any _ _).mono ?_; rintro e w3 ⟨rfl, rfl⟩))
            go_ret
            have hb2 := (hbel.trans gW.below).grown g2 gW.size (fun _ h => by cases h)
            have hs2 := Nat.le_trans gW.size g2.size
            exact ⟨hb2.alloc hs2 _, by simp; omega, .inl ⟨_, _, rfl, .inr (by omega)⟩⟩
          · have hst : seen = false := by rw [HS.out]; exact decide_eq_false hse
            subst hst
            have hie : i = no := by omega
            obtain ⟨z1, z2⟩ := HP.out.2 hse
            subst z1
            subst z2
            go_wp2_with (go_at_call 22; refine hr1.mono ?_; rintro e w2 ⟨g2, o', ho', rfl⟩)
            have gX := gW.grown g2
            obtain ⟨hp2, hpS2⟩ := gX.safe _ _ hp hpS
            have hrow : RowM w2 B 78 2 ov1 0 [] := gX.own.get 2 rfl
            have hc2 := gX.own.box_cell 0 rfl 2 rfl
            have hf2 := gX.own.box_frozen 0 rfl 2 (by simp)
            obtain ⟨oa, oc, hov1⟩ := hrow.form
            have hrd : BytesAt w2 mg (o + 11) (encOpts ps) := by
              have h1 := HRD.out.kept g2 (by simp)
              have hno' : no < rs.length := by omega
              have h2 := hW.out.r2 hno'
              subst hie
              rw [h2] at h1
              exact h1
            have hLe : L = (encOpts ps).length := by
              have hno' : no < rs.length := by omega
              have h2 := hW.out.r2 hno'
              subst hie
              rw [← h2]; exact HL.out
            have hmb : B ≤ mb := (RowM.lt (gX.own.get 0 rfl) mb rfl).1
            have hrn : some mb ≠ ov1.ownBlock := by
              rcases gX.own.apart 0 2 (by simp [LM]) (by simp [LM]) (by omega) with h | h
              · simp [LM, box, Value.ownBlock] at h
              · exact h
            have hpn : some pb ≠ ov1.ownBlock := by
              intro h
              have := hpS2 2 (by simp [LM]) h.symm
              simp [LM] at this
            have hmn : ov1.ownBlock ≠ some mg := fun h => by have := (RowM.lt hrow mg h).1; omega
            have hpm : ¬ pb = mb := safe_box (i := 0) rfl (by decide) hpS2
            have HRd : Hid (BytesAt w2.drew mg (o + 11) (encOpts ps)) := hrd
            have HLE : Hid (L = (encOpts ps).length) := hLe
            subst hov1
            clear hrd hLe hie
            refine wp_region_noPanic ?_
            refine wp_region_till (by kernel_rfl) (fun w' => w'.cell? ⟨mb, 2, none⟩ = some (.slice oa 0 oc)) (fun w' => w'.cell? ⟨pb, 0, none⟩ = some (.pointer (some ⟨mb, 0, none⟩))) [12] 14 rfl ?_
            have hS : w2.drew.cell? ⟨mb, 2, none⟩ = some (.slice oa 0 oc) := hc2
            have hS0 : w2.drew.cell? ⟨pb, 0, none⟩ = some (.pointer (some ⟨mb, 0, none⟩)) := hp2
            refine till_take0 0 (some 180) (v := ?ve0) rfl rfl (by kernel_rfl) (by kernel_rfl) (by kernel_rfl) (fun _ _ _ h => h) (Or.inl ⟨by rfl, ?ye0⟩) hS0 ?re0
            case ye0 => intro w' s0; go_simp; all_goals with_reducible rfl
            simp only [Act.put, List.setIfInBounds_toArray, List.set_cons_zero, List.set_cons_succ]
            refine till_take0 1 (some 181) (v := ?ve1) rfl rfl (by kernel_rfl) (by kernel_rfl) (by kernel_rfl) (fun _ _ _ h => h) (Or.inl ⟨by rfl, ?ye1⟩) hS0 ?re1
            case ye1 => intro w' s0; go_simp; all_goals with_reducible rfl
            simp only [Act.put, List.setIfInBounds_toArray, List.set_cons_zero, List.set_cons_succ]
            refine till_take0 2 (some 182) (v := ?ve2) rfl rfl (by kernel_rfl) (by kernel_rfl) (by kernel_rfl) (fun _ _ _ h => h) (Or.inl ⟨by rfl, ?ye2⟩) hS0 ?re2
            case ye2 => intro w' s0; go_simp; all_goals with_reducible rfl
            simp only [Act.put, List.setIfInBounds_toArray, List.set_cons_zero, List.set_cons_succ]
            refine till_take0 3 (some 183) (v := ?ve3) rfl rfl (by kernel_rfl) (by kernel_rfl) (by kernel_rfl) (fun _ _ _ h => h) (Or.inl ⟨by rfl, ?ye3⟩) hS0 ?re3
            case ye3 => intro w' s0; go_simp; all_goals with_reducible rfl
            simp only [Act.put, List.setIfInBounds_toArray, List.set_cons_zero, List.set_cons_succ]
            refine till_take 4 (some 184) (v := ?ve4) rfl rfl (by kernel_rfl) (by kernel_rfl) (by kernel_rfl) (by kernel_rfl) (fun _ _ _ h => h) (Or.inl ⟨by rfl, ?ye4⟩) hS ?re4
            case ye4 => intro w' s0; go_simp; all_goals with_reducible rfl
            simp only [Act.put, List.setIfInBounds_toArray, List.set_cons_zero, List.set_cons_succ]
            refine till_take0 5 (some 185) (v := ?ve5) rfl rfl (by kernel_rfl) (by kernel_rfl) (by kernel_rfl) (fun _ _ _ h => h) (Or.inl ⟨by rfl, ?ye5⟩) hS0 ?re5
            case ye5 => intro w' s0; go_simp; all_goals with_reducible rfl
            simp only [Act.put, List.setIfInBounds_toArray, List.set_cons_zero, List.set_cons_succ]
            refine till_one (i := 6) (by kernel_rfl) rfl rfl fun K hK => ?_
            go_simp
            refine (opts_any B mg (o + 11) o' L (cap - (o + 11)) ps (.slice oa 0 oc) w2.drew hrow (by have := gX.size; exact this) HRd HLE ho' (by omega) (by unfold maxLen; omega) hW.out.hps (by have := hW.out.hpl; omega) hmn (by have := gX.size; show mg < w2.heap.size; omega)).mono ?_
            rintro e w5 ⟨ov2, cs, rfl, hrow2, hcells, g5, hat5⟩
            obtain ⟨oa2, oc2, rfl⟩ := hrow2.form
            have s5 := g5.cell hS hrn
            have p5 := g5.cell hS0 hpn
            have f5 : w5.frozen? ⟨mb, 2, none⟩ = false := by rw [g5.frozen_far ⟨mb, 2, none⟩ (World.block_lt_of_cell? _ _ hS) hrn]; exact hf2
            have gR : Goes B wb (LM mb r qv ov lv qs.length qxs 0 [] lxs) (w5.setCell ⟨mb, 2, none⟩ (.slice oa2 ps.length oc2)) (LM mb r qv (.slice oa2 ps.length oc2) lv qs.length qxs ps.length cs lxs) :=
              ((gX.drew).row 2 (r' := ⟨78, 2, .slice oa2 ps.length oc2, ps.length, cs⟩) rfl hrow2 g5 hat5 rfl rfl (Nat.zero_le _) (fun h => absurd (show (78 : Nat) = 9 from h) (by decide))).setBox 0 rfl (by decide) 2 (by simp) _
            refine hK _ _ (.inr fun _ => s5) (fun _ => p5) ?_
            clear hK K
            refine till_take0 7 (some 179) (v := ?ve7) rfl rfl (by kernel_rfl) (by kernel_rfl) (by kernel_rfl) (fun _ _ _ h => h) (Or.inl ⟨by rfl, ?ye7⟩) p5 ?re7
            case ye7 => intro w' s0; go_simp; all_goals with_reducible rfl
            simp only [Act.put, List.setIfInBounds_toArray, List.set_cons_zero, List.set_cons_succ]
            refine till_take0 8 (some 187) (v := ?ve8) rfl rfl (by kernel_rfl) (by kernel_rfl) (by kernel_rfl) (fun _ _ _ h => h) (Or.inl ⟨by rfl, ?ye8⟩) p5 ?re8
            case ye8 => intro w' s0; go_simp; all_goals with_reducible rfl
            simp only [Act.put, List.setIfInBounds_toArray, List.set_cons_zero, List.set_cons_succ]
            refine till_take0 9 (some 188) (v := ?ve9) rfl rfl (by kernel_rfl) (by kernel_rfl) (by kernel_rfl) (fun _ _ _ h => h) (Or.inl ⟨by rfl, ?ye9⟩) p5 ?re9
            case ye9 => intro w' s0; go_simp; all_goals with_reducible rfl
            simp only [Act.put, List.setIfInBounds_toArray, List.set_cons_zero, List.set_cons_succ]
            refine till_take0 10 (some 189) (v := ?ve10) rfl rfl (by kernel_rfl) (by kernel_rfl) (by kernel_rfl) (fun _ _ _ h => h) (Or.inl ⟨by rfl, ?ye10⟩) p5 ?re10
            case ye10 => intro w' s0; go_simp; all_goals with_reducible rfl
            simp only [Act.put, List.setIfInBounds_toArray, List.set_cons_zero, List.set_cons_succ]
            refine till_take0 11 (some 190) (v := ?ve11) rfl rfl (by kernel_rfl) (by kernel_rfl) (by kernel_rfl) (fun _ _ _ h => h) (Or.inl ⟨by rfl, ?ye11⟩) p5 ?re11
            case ye11 => intro w' s0; go_simp; all_goals with_reducible rfl
            simp only [Act.put, List.setIfInBounds_toArray, List.set_cons_zero, List.set_cons_succ]
            refine till_one (i := 12) (by kernel_rfl) rfl rfl fun K hK => ?_
            go_simp
            refine hK _ _ (.inl (by decide)) (fun _ => ?_) ?_
            · exact (grown_setCell w5 mb 2 _).cell p5 (by simpa using hpm)
            clear hK K
            refine till_take0 13 (some 20) (v := ?ve13) rfl rfl (by kernel_rfl) (by kernel_rfl) (by kernel_rfl) (fun _ _ _ h => h) (Or.inl ⟨by rfl, ?ye13⟩) ((grown_setCell w5 mb 2 _).cell p5 (by simpa using hpm)) ?re13
            case ye13 => intro w' s0; go_simp; all_goals with_reducible rfl
            simp only [Act.put, List.setIfInBounds_toArray, List.set_cons_zero, List.set_cons_succ]
            refine till_done (by kernel_rfl) ?_ _
            refine NoPanic.normal ?_
            go_wp2
            have hie : i = no := by omega
            refine ⟨⟨i + 1, o + 11 + L, true, _, ps.length, cs, hi', by go_num, rfl, by rw [hie]; go_num, ?_, hov, by omega, ?_, gR, ?_⟩, by simp [intOf]; omega⟩
            · show _ = _
              rw [HTK.out]; have := HO.out; omega
            · show _ = _
              rw [decide_eq_true (by omega)]
            · refine ⟨fun _ => ⟨rfl, ?_⟩, fun h => absurd h (by omega)⟩
              have := HO.out
              rw [hie] at this
              rw [← this]
              exact hcells
        · have h41' : ¬ (ty : Int) = 41 := by omega
          have h41b : ((ty : Int) != 41) = true := by simp [h41']
          go_wp2_with (go_at_call 22; refine hr1.mono ?_; rintro e w2 ⟨g2, o', ho', rfl⟩)
          go_roundw
          case rel =>
            have hlt : i < no := by
              rcases Nat.lt_or_ge i no with h | h
              · exact h
              · exact absurd (HR1.out.2 h) h41
            refine ⟨i + 1, o + 11 + L, seen, ov1, no1, oxs1, hi', by go_num, rfl, by go_num, ?_, hov, by omega, ?_, gW.grown g2, ?_⟩
            · show _ = _
              rw [HTK.out]; have := HO.out; omega
            · show _ = _
              rw [HS.out, decide_eq_false (by omega), decide_eq_false (by omega)]
            · exact ⟨fun h => by omega, fun _ => HP.out.2 (by omega)⟩
          case measure => simp [intOf]; omega
      · have hr1 := hrr.mono (R' := fun e w' => wr.grownBy w' none ∧ ∃ b s, w'.cell? ⟨b, 0, none⟩ = some (.string s) ∧ e = .returned (.tuple #[.int .u16 0, .slice none 0 0, .int .i64 0, .iface 80 (.pointer (some ⟨b, 0, none⟩))])) (by rintro e w' ⟨g, h | h⟩; omega; exact ⟨g, h.2⟩)
        clear hrr
        have hFr : F.answers wr.tape := by rw [(hbel.trans gW.below).tape]; exact hF
        go_wp2_with (first | (go_at_call 22; refine hr1.mono ?_; rintro e w2 ⟨g2, b, s, hbs, rfl⟩) | (go_at_call 16; refine (errorf_rw F ((i : Int) + 1) w2.heap.size b s _ (by show F.answers w2.tape; rw [g2.tape]; exact hFr) (by simp) (by simp) ((World.grownBy_alloc w2 _ none).cell hbs (by simp))).mono ?_; rintro e w3 ⟨v, rfl, hb3⟩))
        go_ret
        have hbT := ((hbel.trans gW.below).grown g2 gW.size (fun _ h => by cases h)).alloc (Nat.le_trans gW.size g2.size) (.cells #[.iface 3 (.int .i64 ((i : Int) + 1)), .iface 80 (.pointer (some ⟨b, 0, none⟩))] 20)
        have hsT : B ≤ (w2.alloc (.cells #[.iface 3 (.int .i64 ((i : Int) + 1)), .iface 80 (.pointer (some ⟨b, 0, none⟩))] 20)).heap.size := by have := gW.size; have := g2.size; simp; omega
        exact ⟨hbT.trans (hb3.mono hsT), Nat.le_trans hsT hb3.size, .inl ⟨_, _, rfl, .inl (by omega)⟩⟩
    · have hie : i = rs.length := by omega
      subst hie
      go_wp2
      go_ret
      have hO := HO.out
      rw [List.take_length] at hO
      have hnp : nopt ≤ 1 := by omega
      refine ⟨hbel.trans gW.below, gW.size, .inr ⟨rfl, by omega, hnp, qv, ov1, lv, qxs, oxs1, lxs, 12 + (encQs qs).length + (encRs (rs.take no)).length + 11, ?_⟩⟩
      rw [← hr.out]
      have hpost : no1 = (if nopt = 0 then 0 else ps.length) ∧ BytesAt wr mg (12 + (encQs qs).length + (encRs (rs.take no)).length + 11) (if nopt = 0 then [] else encOpts ps) ∧ OptCells mg (12 + (encQs qs).length + (encRs (rs.take no)).length + 11) (if nopt = 0 then [] else ps) oxs1 := by
        by_cases h0 : nopt = 0
        · rw [if_pos h0, if_pos h0, if_pos h0]
          obtain ⟨h1, h2⟩ := HP.out.2 (by omega)
          exact ⟨h1, fun j hj => absurd hj (Nat.not_lt_zero _), h2⟩
        · rw [if_neg h0, if_neg h0, if_neg h0]
          obtain ⟨h1, h2⟩ := HP.out.1 (by omega)
          refine ⟨h1, ?_, h2⟩
          have hno' : no < rs.length := by omega
          have hrk := hW.out.rok rs[no] (List.getElem_mem hno')
          obtain ⟨_, _, _, hrd⟩ := r_bytes (hM.out.below (hbel.trans gW.below) hmg) hno' hrk rfl
          rw [hW.out.r2 hno'] at hrd
          exact hrd
      obtain ⟨e1, e2, e3⟩ := hpost
      subst e1
      refine ⟨gW.own, ?_, e2, e3⟩
      obtain ⟨q1, q2⟩ := hQ.out
      refine ⟨q1, fun j hj => ?_⟩
      obtain ⟨v, v1, v2, v3⟩ := q2 j hj
      exact ⟨v, v1, v2.goes gW, v3⟩

end Go.Proofs.YbulkaxhmFmt
