/-
  Unpack: the questions.
-/
import Derived.Test.YbulkaxhmFmtUnp3
set_option linter.unusedVariables false
set_option linter.unusedSimpArgs false
namespace Go.Proofs.YbulkaxhmFmt
open Go.Extern.Stop Go.Stop Go.Extern Go.RowKit

theorem addr_add (g f : Nat) : (⟨g, 0, none⟩ : Addr).add f = ⟨g, f, none⟩ := by unfold Addr.add; split <;> simp_all

/-- The name is a part of the labels. -/
theorem name_str {w : World} {B mb i nl f lc : Nat} {r : Bool} {qv ov : Value} {la na : Option Addr} {qxs lxs : List Value} {ls : List (List UInt8)} (hown : Own w B (LM mb r qv ov (.slice la nl lc) i qxs 0 [] (lxs ++ svs ls))) (hnl : nl = (lxs ++ svs ls).length) (hf : f = lxs.length)
    (hna : na = if nl = f then la else Option.map (fun x => x.add f) la) : StrAt w (LM mb r qv ov (.slice la nl lc) i qxs 0 [] (lxs ++ svs ls)) (.slice na (nl - f) (nl - f)) ls := by
  have e : nl - f = ls.length := by rw [hnl, hf]; simp [svs]
  refine ⟨na, nl - f, by rw [e], fun j hj => ?_⟩
  have hne : ¬ nl = f := by omega
  rw [if_neg hne] at hna
  have hrow : RowM w B 9 1 (.slice la nl lc) (lxs ++ svs ls).length (lxs ++ svs ls) := hown.get 3 rfl
  rcases hrow.2 with ⟨h1, h2⟩ | ⟨g, cap, cur, fr, h1, _⟩
  · omega
  · injection h1 with h1 _ _
    subst h1
    rw [Option.map_some, addr_add] at hna
    refine ⟨g, f, hna, ?_, ?_⟩
    · refine RowM.cells hrow (g := g) rfl (f + j) _ ?_
      rw [List.getElem?_append_right (by omega), hf, Nat.add_sub_cancel_left]
      simp [svs, List.getElem?_eq_getElem hj]
    · have ap : ∀ k (hk : k < 3), ((LM mb r qv ov (.slice (some ⟨g, 0, none⟩) nl lc) i qxs 0 [] (lxs ++ svs ls))[k]'(by simp [LM]; omega)).v.ownBlock ≠ some g := by
        intro k hk h
        rcases hown.apart 3 k (by simp [LM]) (by simp [LM]; omega) (by omega) with h' | h'
        · exact absurd (show (some g : Option Nat) = none from h') (by simp)
        · exact h' (Eq.trans (show _ = some g from rfl) h.symm)
      intro k hk hb
      match k, hk, hb with
      | 0, _, hb => exact absurd hb (ap 0 (by omega))
      | 1, _, hb => exact absurd hb (ap 1 (by omega))
      | 2, _, hb => exact absurd hb (ap 2 (by omega))
      | 3, _, hb => exact ⟨rfl, by show f + j < (lxs ++ svs ls).length; omega, rfl⟩
      | k + 4, hk, _ => simp only [LM, List.length_cons, List.length_nil] at hk; omega

theorem qn_step {B : Nat} {w w' : World} {L L' : List RowS} {qs : List MQ} {q : MQ} {i : Nat} {qxs : List Value} {nv : Value} {x y : Int} (HQ : QNames w L (qs.take i) qxs) (hi : i < qs.length) (hq : q = qs[i]) (hg : Goes B w L w' L') (hn : StrAt w' L' nv q.ls)
    (hx : x = q.ty) (hy : y = q.cl) : QNames w' L' (qs.take (i + 1)) (qxs ++ [nv, .int .u16 x, .int .u16 y]) := by
  obtain ⟨h1, h2⟩ := HQ
  have hl : (qs.take i).length = i := by rw [List.length_take]; omega
  rw [hl] at h1
  refine ⟨by rw [List.length_append, h1, List.length_take]; simp; omega, fun j hj => ?_⟩
  have hj' : j < i + 1 := by rw [List.length_take] at hj; omega
  by_cases hji : j < i
  · obtain ⟨v, v1, v2, v3, v4⟩ := h2 j (by rw [hl]; exact hji)
    have lt1 := (List.getElem?_eq_some_iff.1 v1).1
    have lt3 := (List.getElem?_eq_some_iff.1 v3).1
    have lt4 := (List.getElem?_eq_some_iff.1 v4).1
    rw [List.getElem_take] at v2 v3 v4
    rw [List.getElem_take]
    exact ⟨v, by rw [List.getElem?_append_left lt1]; exact v1, v2.goes hg, by rw [List.getElem?_append_left lt3]; exact v3, by rw [List.getElem?_append_left lt4]; exact v4⟩
  · have hje : j = i := by omega
    subst hje
    rw [List.getElem_take, ← hq]
    refine ⟨nv, ?_, hn, ?_, ?_⟩
    · rw [List.getElem?_append_right (by omega), h1, show 3 * j - j * 3 = 0 by omega]; rfl
    · rw [List.getElem?_append_right (by omega), h1, show 3 * j + 1 - j * 3 = 1 by omega, ← hx]; rfl
    · rw [List.getElem?_append_right (by omega), h1, show 3 * j + 2 - j * 3 = 2 by omega, ← hy]; rfl

set_option maxRecDepth 1000000 in
set_option maxHeartbeats 1000000 in
theorem part14 (F : Interp) (B mb mg n cap pb tb N : Nat) (fl : UInt8) (qs : List MQ) (rs : List RRec) (no nopt : Nat) (ps : List (Nat × List UInt8)) (r : Bool) (qv0 ov lv0 : Value) (txt : ByteArray) (w wb : World)
    (u3 u7 u9 u10 u11 u12 u13 u14 u15 u16 u17 u18 u19 u20 u21 u22 u23 u24 u25 u26 u27 u28 u29 u30 u31 u32 u33 u34 u35 u36 u37 u38 u39 u40 u41 u42 u43 u44 u45 u46 u47 u48 u49 u50 u51 u52 u53 u54 u55 u56 u57 u58 u59 u60 u61 u62 u63 u64 u65 u66 u67 u68 u69 u70 u71 u72 u73 u74 u75 u76 u77 u78 u79 u80 u81 u82 u83 u84 u85 u86 u87 u88 u89 u90 u91 u92 u93 u94 u95 u96 u97 u98 u99 u100 u101 u102 u103 u104 u105 u106 u107 u108 u109 u110 u111 u112 u113 u114 u115 u116 u117 u118 u119 u120 u121 u122 u123 u124 u125 u126 u127 u128 u129 u130 u131 u132 u133 u134 u135 u136 u137 u138 u139 u140 u141 u142 u143 u144 u145 u146 u147 u148 u149 u150 u151 u152 u153 u154 u155 u156 u157 u158 u159 u160 u161 u162 u163 u164 u165 u166 u167 u168 u169 u170 u171 u172 u173 u174 u175 u176 u177 u178 u179 u180 u181 u182 u183 u184 u185 u186 u187 u188 u189 u190 u191 u192 u193 : Value)
    (hr : Hid (r = qrBit fl)) (hF : F.answers w.tape) (hW : Hid (WF qs rs no nopt ps)) (hmg : mg < B) (hM : Hid (BytesAt w mg 0 (MB fl qs rs no nopt))) (hn : n ≤ 200000) (hnM : n ≤ (MB fl qs rs no nopt).length) (hcap : n ≤ cap) (hcm : cap ≤ 9223372036854775807) (hN : Hid (N = no + nopt)) (h12 : 12 ≤ n)
    (hbel : Below B w wb) (hown : Own wb B (LM mb r qv0 ov lv0 0 [] 0 [] [])) (hsz : B ≤ wb.heap.size) (hp : wb.cell? ⟨pb, 0, none⟩ = some (.pointer (some ⟨mb, 0, none⟩))) (hpS : Safe (LM mb r qv0 ov lv0 0 [] 0 [] []) ⟨pb, 0, none⟩)
    (ht : wb.cell? ⟨tb, 0, none⟩ = some (.string txt)) (htS : Safe (LM mb r qv0 ov lv0 0 [] 0 [] []) ⟨tb, 0, none⟩) (hx : Hid (0 < qs.length → txt = ⟨((MB fl qs rs no nopt).take n).toArray⟩)) :
    Code.wp Ybaf.prog code14 (bodyPost Ybaf.prog Ybaf.f12 (Unp B mb mg n fl qs rs no nopt ps w)) ⟨#[.pointer (some ⟨mb, 0, none⟩), .slice (some ⟨mg, 0, none⟩) n cap, .pointer (some ⟨pb, 0, none⟩), u3, .nilIface, .int .i64 (qs.length : Int), .int .i64 (N : Int), u7, .pointer (some ⟨tb, 0, none⟩), u9, u10, u11, u12, u13, u14, u15, u16, u17, u18, u19, u20, u21, u22, u23, u24, u25, u26, u27, u28, u29, u30, u31, u32, u33, u34, u35, u36, u37, u38, u39, u40, u41, u42, u43, u44, u45, u46, u47, u48, u49, u50, u51, u52, u53, u54, u55, u56, u57, u58, u59, u60, u61, u62, u63, u64, u65, u66, u67, u68, u69, u70, u71, u72, u73, u74, u75, u76, u77, u78, u79, u80, u81, u82, u83, u84, u85, u86, u87, u88, u89, u90, u91, u92, u93, u94, u95, u96, u97, u98, u99, u100, u101, u102, u103, u104, u105, u106, u107, u108, u109, u110, u111, u112, u113, u114, u115, u116, u117, u118, u119, u120, u121, u122, u123, u124, u125, u126, u127, u128, u129, u130, u131, u132, u133, u134, u135, u136, u137, u138, u139, u140, u141, u142, u143, u144, u145, u146, u147, u148, u149, u150, u151, u152, u153, u154, u155, u156, u157, u158, u159, u160, u161, u162, u163, u164, u165, u166, u167, u168, u169, u170, u171, u172, u173, u174, u175, u176, u177, u178, u179, u180, u181, u182, u183, u184, u185, u186, u187, u188, u189, u190, u191, u192, u193], []⟩ wb := by
  have hq256 := hW.out.hq
  have hT := MB_length fl qs rs no nopt
  have hmf : ∀ (fn : Fn) (first cap : Array Value) (w : World), (Instr.makeFunc fn first cap).run Ybaf.prog w = .ok (.func fn first cap) w := fun _ _ _ _ => rfl
  obtain ⟨i73, hi73, hz730, hz731, hz732⟩ := info_parts Ybaf.info73
  conv => arg 2; whnf
  go_wp2_with fail
  go_loopw [10, 11] (fun a b wr => QLRel B mb n r qs ov wb (LM mb r qv0 ov lv0 0 [] 0 [] []) a b wr) (fun _ b _ => qs.length - (intOf b).toNat)
  case atStart =>
    exact ⟨0, 12, qv0, lv0, [], [], Nat.zero_le _, rfl, rfl, by simp [Hid, encQs], h12, by simp, Goes.refl hown hsz, by simp [Hid, QNames]⟩
  case round =>
    obtain ⟨i, o, qv, lv, qxs, lxs, hil, rfl, rfl, HO, hon, hll, gW, HQ⟩ := hrel
    obtain ⟨hp1, hpS1⟩ := gW.safe _ _ hp hpS
    obtain ⟨ht1, htS1⟩ := gW.safe _ _ ht htS
    by_cases hi : i < qs.length
    · have hok := hW.out.qok qs[i] (List.getElem_mem hi)
      obtain ⟨hbn, ⟨y1, y2⟩, z1, z2⟩ := q_bytes (hM.out.below (hbel.trans gW.below) hmg) hi hok
      have hqt := q_text (hx.out (by omega)) hi
      have hle := encQs_le hi
      have htk := encQs_take hi
      have hcn := ls_count hok
      rw [← HO.out] at hbn y1 y2 z1 z2 hqt
      obtain ⟨q, hq⟩ : ∃ q, q = qs[i] := ⟨_, rfl⟩
      have HTX : Hid (∀ j (hj : j < q.ls.length), o + wireLs (q.ls.take j) + 1 + q.ls[j].length ≤ n → txt.extract (o + wireLs (q.ls.take j) + 1) (o + wireLs (q.ls.take j) + 1 + q.ls[j].length) = ⟨q.ls[j].toArray⟩) := by subst hq; exact hqt
      clear hqt
      rw [← hq] at hok hbn y1 y2 z1 z2 hle htk hcn
      have HBN : Hid (BytesAt wr mg o (encLs q.ls ++ [0])) := hbn
      have HQE : Hid (q = qs[i]) := hq
      have HTK : Hid ((encQs (qs.take (i + 1))).length = (encQs (qs.take i)).length + (wireLs q.ls + 5)) := htk
      obtain ⟨k1, k2, k3, k4⟩ := hok
      have K1 : Hid (∀ l ∈ q.ls, 0 < l.length ∧ l.length ≤ 63) := k1
      have hoT : o + (wireLs q.ls + 5) ≤ (MB fl qs rs no nopt).length := by have := HO.out; omega
      have hts : txt.size = n := by rw [hx.out (by omega)]; show (((MB fl qs rs no nopt).take n).toArray).size = n; simp; omega
      clear hbn hq htk k1 hle
      have hnm := name_any B mb pb tb mg n cap o txt r qv ov lv i qxs 0 [] lxs q.ls wr gW.own gW.size hp1 hpS1 ht1 htS1 HBN hmg K1 k2 hts (by omega) (by omega) (by omega) HTX
      have hc3 := gW.own.box_cell 0 rfl 3 rfl
      have hrl : RowM wr B 9 1 lv lxs.length lxs := gW.own.get 3 rfl
      obtain ⟨la, lc, hlv⟩ := hrl.form
      by_cases hov : o + wireLs q.ls + 1 ≤ n
      · have hnm' := hnm.mono (R' := fun e w' => e = .returned (.tuple #[.int .i64 ((o + wireLs q.ls + 1 : Nat) : Int), .nilIface]) ∧ ∃ lv', Goes B wr (LM mb r qv ov lv i qxs 0 [] lxs) w' (LM mb r qv ov lv' i qxs 0 [] (lxs ++ svs q.ls))) (by rintro e w' (h | h); exact h.2; have := h.1; omega)
        clear hnm
        obtain ⟨nx, hnx⟩ : ∃ nx, nx = o + wireLs q.ls + 1 := ⟨_, rfl⟩
        rw [← hnx] at hnm' y1 y2 z1 z2 hov
        have HNX : Hid (nx = o + wireLs q.ls + 1) := hnx
        clear hnx
        have hFr : F.answers wr.tape := by rw [(hbel.trans gW.below).tape]; exact hF
        by_cases hct : nx + 4 ≤ n
        · have t4 : decide ((n : Int) < (nx : Int) + 4) = false := decide_eq_false (by omega)
          subst hlv
          go_wp2_with (go_at_call 21; refine hnm'.mono ?_; rintro e w2 ⟨rfl, lv', gN⟩)
          have gM := gW.trans gN
          obtain ⟨hp2, hpS2⟩ := gM.safe _ _ hp hpS
          have hrq : RowM w2 B 73 3 qv i qxs := gM.own.get 1 rfl
          obtain ⟨nl, hnl⟩ : ∃ nl, nl = (lxs ++ svs q.ls).length := ⟨_, rfl⟩
          obtain ⟨f, hf⟩ : ∃ f, f = lxs.length := ⟨_, rfl⟩
          have hrl2 : RowM w2 B 9 1 lv' nl (lxs ++ svs q.ls) := by rw [hnl]; exact gM.own.get 3 rfl
          have hc1 := gM.own.box_cell 0 rfl 1 rfl
          have hc3 := gM.own.box_cell 0 rfl 3 rfl
          have hf1 := gM.own.box_frozen 0 rfl 1 (by simp)
          have hrn : some mb ≠ qv.ownBlock := by
            rcases gM.own.apart 0 1 (by simp [LM]) (by simp [LM]) (by omega) with h | h
            · simp [LM, box, Value.ownBlock] at h
            · exact h
          have hpn : some pb ≠ qv.ownBlock := by
            intro h
            have := hpS2 1 (by simp [LM]) h.symm
            simp [LM] at this
          have hpm : ¬ pb = mb := safe_box (i := 0) rfl (by decide) hpS2
          obtain ⟨qa, qc, hqv⟩ := hrq.form
          obtain ⟨la2, lc2, hlv2⟩ := hrl2.form
          have hnlc : nl ≤ lc2 := by
            rcases hrl2.2 with ⟨h1, h2⟩ | ⟨g, c, cur, fr, h1, _, _, _, h2, _⟩
            · omega
            · rw [hlv2] at h1; injection h1 with _ _ h1; omega
          have HNF : Hid (nl = f + q.ls.length) := by show _ = _; rw [hnl, hf]; simp [svs]
          have hnlf : f ≤ nl := by have := HNF.out; omega
          have HNL : Hid (nl = (lxs ++ svs q.ls).length) := hnl
          have HF : Hid (f = lxs.length) := hf
          have Y1 := (gN.below.cell hmg (p := ⟨mg, nx, none⟩)).trans y1
          have Y2 := (gN.below.cell hmg (p := ⟨mg, nx + 1, none⟩)).trans y2
          have Z1 := (gN.below.cell hmg (p := ⟨mg, nx + 2, none⟩)).trans z1
          have Z2 := (gN.below.cell hmg (p := ⟨mg, nx + 2 + 1, none⟩)).trans z2
          have HTY : Hid (256 * ((q.ty / 256 : Nat) : Int) + ((q.ty % 256 : Nat) : Int) = q.ty) := by show _ = _; omega
          have HCL : Hid (256 * ((q.cl / 256 : Nat) : Int) + ((q.cl % 256 : Nat) : Int) = q.cl) := by show _ = _; omega
          obtain ⟨x1, hx1⟩ : ∃ x : Int, x = ((q.ty / 256 : Nat) : Int) := ⟨_, rfl⟩
          obtain ⟨x2, hx2⟩ : ∃ x : Int, x = ((q.ty % 256 : Nat) : Int) := ⟨_, rfl⟩
          obtain ⟨v1, hv1⟩ : ∃ x : Int, x = ((q.cl / 256 : Nat) : Int) := ⟨_, rfl⟩
          obtain ⟨v2, hv2⟩ : ∃ x : Int, x = ((q.cl % 256 : Nat) : Int) := ⟨_, rfl⟩
          rw [← hx1, ← hx2] at HTY
          rw [← hv1, ← hv2] at HCL
          rw [← hx1] at Y1
          rw [← hx2] at Y2
          rw [← hv1] at Z1
          rw [← hv2] at Z2
          have a1 : 0 ≤ x1 ∧ x1 ≤ 255 := by omega
          have a2 : 0 ≤ x2 ∧ x2 ≤ 255 := by omega
          have a3 : 0 ≤ v1 ∧ v1 ≤ 255 := by omega
          have a4 : 0 ≤ v2 ∧ v2 ≤ 255 := by omega
          clear hx1 hx2 hv1 hv2
          have l1 : (f : Int) ≤ (nl : Int) := by omega
          have l2 : (nl : Int) ≤ (lc2 : Int) := by omega
          have l3 : (nx : Int) ≤ (n : Int) := by omega
          have l4 : (nx : Int) + 2 ≤ (n : Int) := by omega
          have l5 : (n : Int) ≤ (cap : Int) := by omega
          have l6 : ¬ cap = nx := by omega
          have l7 : ¬ cap = nx + 2 := by omega
          have l8 : IntKind.i64.wrap ((nx : Int) + 2) = (nx : Int) + 2 := by rw [IntKind.wrap_i64]; omega
          have l9 : (0 : Int) ≤ (nx : Int) + 2 := by omega
          have l10 : ((nx : Int) + 2).toNat = nx + 2 := by omega
          rw [← hf]
          subst hqv
          subst hlv2
          clear hnl hf y1 y2 z1 z2
          refine wp_region_noPanic ?_
          refine wp_region_till (by kernel_rfl) (fun w' => w'.cell? ⟨mb, 1, none⟩ = some (.slice qa i qc) ∧ w'.cell? ⟨mb, 3, none⟩ = some (.slice la2 nl lc2)) (fun w' => w'.cell? ⟨pb, 0, none⟩ = some (.pointer (some ⟨mb, 0, none⟩))) [37] 38 rfl ?_
          have hS : w2.drew.cell? ⟨mb, 1, none⟩ = some (.slice qa i qc) ∧ w2.drew.cell? ⟨mb, 3, none⟩ = some (.slice la2 nl lc2) := ⟨hc1, hc3⟩
          have hS0 : w2.drew.cell? ⟨pb, 0, none⟩ = some (.pointer (some ⟨mb, 0, none⟩)) := hp2
          refine till_take0 0 (some 114) (v := ?vg0) rfl rfl (by kernel_rfl) (by kernel_rfl) (by kernel_rfl) (fun _ _ _ h => h) (Or.inl ⟨by rfl, ?yg0⟩) hS0 ?rg0
          case yg0 => intro w' s0; go_simp; all_goals with_reducible rfl
          simp only [Act.put, List.setIfInBounds_toArray, List.set_cons_zero, List.set_cons_succ]
          refine till_take0 1 (some 115) (v := ?vg1) rfl rfl (by kernel_rfl) (by kernel_rfl) (by kernel_rfl) (fun _ _ _ h => h) (Or.inl ⟨by rfl, ?yg1⟩) hS0 ?rg1
          case yg1 => intro w' s0; go_simp; all_goals with_reducible rfl
          simp only [Act.put, List.setIfInBounds_toArray, List.set_cons_zero, List.set_cons_succ]
          refine till_take0 2 (some 116) (v := ?vg2) rfl rfl (by kernel_rfl) (by kernel_rfl) (by kernel_rfl) (fun _ _ _ h => h) (Or.inl ⟨by rfl, ?yg2⟩) hS0 ?rg2
          case yg2 => intro w' s0; go_simp; all_goals with_reducible rfl
          simp only [Act.put, List.setIfInBounds_toArray, List.set_cons_zero, List.set_cons_succ]
          refine till_take0 3 (some 117) (v := ?vg3) rfl rfl (by kernel_rfl) (by kernel_rfl) (by kernel_rfl) (fun _ _ _ h => h) (Or.inl ⟨by rfl, ?yg3⟩) hS0 ?rg3
          case yg3 => intro w' s0; go_simp; all_goals with_reducible rfl
          simp only [Act.put, List.setIfInBounds_toArray, List.set_cons_zero, List.set_cons_succ]
          refine till_take 4 (some 118) (v := ?vg4) rfl rfl (by kernel_rfl) (by kernel_rfl) (by kernel_rfl) (by kernel_rfl) (fun _ _ _ h => h) (Or.inl ⟨by rfl, ?yg4⟩) hS ?rg4
          case yg4 => intro w' ⟨s1, s2⟩; go_simp; all_goals with_reducible rfl
          simp only [Act.put, List.setIfInBounds_toArray, List.set_cons_zero, List.set_cons_succ]
          refine till_take0 5 (some 119) (v := ?vg5) rfl rfl (by kernel_rfl) (by kernel_rfl) (by kernel_rfl) (fun _ _ _ h => h) (Or.inl ⟨by rfl, ?yg5⟩) hS0 ?rg5
          case yg5 => intro w' s0; go_simp; all_goals with_reducible rfl
          simp only [Act.put, List.setIfInBounds_toArray, List.set_cons_zero, List.set_cons_succ]
          refine till_take0 6 (some 120) (v := ?vg6) rfl rfl (by kernel_rfl) (by kernel_rfl) (by kernel_rfl) (fun _ _ _ h => h) (Or.inl ⟨by rfl, ?yg6⟩) hS0 ?rg6
          case yg6 => intro w' s0; go_simp; all_goals with_reducible rfl
          simp only [Act.put, List.setIfInBounds_toArray, List.set_cons_zero, List.set_cons_succ]
          refine till_take0 7 (some 121) (v := ?vg7) rfl rfl (by kernel_rfl) (by kernel_rfl) (by kernel_rfl) (fun _ _ _ h => h) (Or.inl ⟨by rfl, ?yg7⟩) hS0 ?rg7
          case yg7 => intro w' s0; go_simp; all_goals with_reducible rfl
          simp only [Act.put, List.setIfInBounds_toArray, List.set_cons_zero, List.set_cons_succ]
          refine till_take 8 (some 122) (v := ?vg8) rfl rfl (by kernel_rfl) (by kernel_rfl) (by kernel_rfl) (by kernel_rfl) (fun _ _ _ h => h) (Or.inl ⟨by rfl, ?yg8⟩) hS ?rg8
          case yg8 => intro w' ⟨s1, s2⟩; go_simp; all_goals with_reducible rfl
          simp only [Act.put, List.setIfInBounds_toArray, List.set_cons_zero, List.set_cons_succ]
          refine till_take0 9 (some 123) (v := ?vg9) rfl rfl (by kernel_rfl) (by kernel_rfl) (by kernel_rfl) (fun _ _ _ h => h) (Or.inl ⟨by rfl, ?yg9⟩) hS0 ?rg9
          case yg9 => intro w' s0; go_simp; all_goals with_reducible rfl
          simp only [Act.put, List.setIfInBounds_toArray, List.set_cons_zero, List.set_cons_succ]
          refine till_take0 10 (some 124) (v := ?vg10) rfl rfl (by kernel_rfl) (by kernel_rfl) (by kernel_rfl) (fun _ _ _ h => h) (Or.inl ⟨by rfl, ?yg10⟩) hS0 ?rg10
          case yg10 => intro w' s0; go_simp; all_goals with_reducible rfl
          simp only [Act.put, List.setIfInBounds_toArray, List.set_cons_zero, List.set_cons_succ]
          refine till_take0 11 (some 125) (v := ?vg11) rfl rfl (by kernel_rfl) (by kernel_rfl) (by kernel_rfl) (fun _ _ _ h => h) (Or.inl ⟨by rfl, ?yg11⟩) hS0 ?rg11
          case yg11 => intro w' s0; go_simp; all_goals with_reducible rfl
          simp only [Act.put, List.setIfInBounds_toArray, List.set_cons_zero, List.set_cons_succ]
          refine till_take0 12 (some 126) (v := ?vg12) rfl rfl (by kernel_rfl) (by kernel_rfl) (by kernel_rfl) (fun _ _ _ h => h) (Or.inl ⟨by rfl, ?yg12⟩) hS0 ?rg12
          case yg12 => intro w' s0; go_simp; all_goals with_reducible rfl
          simp only [Act.put, List.setIfInBounds_toArray, List.set_cons_zero, List.set_cons_succ]
          refine till_take 13 (some 127) (v := ?vg13) rfl rfl (by kernel_rfl) (by kernel_rfl) (by kernel_rfl) (by kernel_rfl) (fun _ _ _ h => h) (Or.inl ⟨by rfl, ?yg13⟩) hS ?rg13
          case yg13 => intro w' ⟨s1, s2⟩; go_simp; all_goals with_reducible rfl
          simp only [Act.put, List.setIfInBounds_toArray, List.set_cons_zero, List.set_cons_succ]
          refine till_take0 14 (some 128) (v := ?vg14) rfl rfl (by kernel_rfl) (by kernel_rfl) (by kernel_rfl) (fun _ _ _ h => h) (Or.inl ⟨by rfl, ?yg14⟩) hS0 ?rg14
          case yg14 => intro w' s0; go_simp; all_goals with_reducible rfl
          simp only [Act.put, List.setIfInBounds_toArray, List.set_cons_zero, List.set_cons_succ]
          refine till_take0 15 (some 129) (v := ?vg15) rfl rfl (by kernel_rfl) (by kernel_rfl) (by kernel_rfl) (fun _ _ _ h => h) (Or.inl ⟨by rfl, ?yg15⟩) hS0 ?rg15
          case yg15 => intro w' s0; go_simp; all_goals with_reducible rfl
          simp only [Act.put, List.setIfInBounds_toArray, List.set_cons_zero, List.set_cons_succ]
          refine till_take0 16 (some 130) (v := ?vg16) rfl rfl (by kernel_rfl) (by kernel_rfl) (by kernel_rfl) (fun _ _ _ h => h) (Or.inl ⟨by rfl, ?yg16⟩) hS0 ?rg16
          case yg16 => intro w' s0; go_simp; all_goals with_reducible rfl
          simp only [Act.put, List.setIfInBounds_toArray, List.set_cons_zero, List.set_cons_succ]
          refine till_take0 17 (some 131) (v := ?vg17) rfl rfl (by kernel_rfl) (by kernel_rfl) (by kernel_rfl) (fun _ _ _ h => h) (Or.inl ⟨by rfl, ?yg17⟩) hS0 ?rg17
          case yg17 => intro w' s0; go_simp; all_goals with_reducible rfl
          simp only [Act.put, List.setIfInBounds_toArray, List.set_cons_zero, List.set_cons_succ]
          refine till_take 18 (some 132) (v := ?vg18) rfl rfl (by kernel_rfl) (by kernel_rfl) (by kernel_rfl) (by kernel_rfl) (fun _ _ _ h => h) (Or.inl ⟨by rfl, ?yg18⟩) hS ?rg18
          case yg18 => intro w' ⟨s1, s2⟩; go_simp; all_goals with_reducible rfl
          simp only [Act.put, List.setIfInBounds_toArray, List.set_cons_zero, List.set_cons_succ]
          refine till_take0 19 (some 133) (v := ?vg19) rfl rfl (by kernel_rfl) (by kernel_rfl) (by kernel_rfl) (fun _ _ _ h => h) (Or.inl ⟨by rfl, ?yg19⟩) hS0 ?rg19
          case yg19 => intro w' s0; go_simp; all_goals with_reducible rfl
          simp only [Act.put, List.setIfInBounds_toArray, List.set_cons_zero, List.set_cons_succ]
          refine till_take0 20 (some 134) (v := ?vg20) rfl rfl (by kernel_rfl) (by kernel_rfl) (by kernel_rfl) (fun _ _ _ h => h) (Or.inl ⟨by rfl, ?yg20⟩) hS0 ?rg20
          case yg20 => intro w' s0; go_simp; all_goals with_reducible rfl
          simp only [Act.put, List.setIfInBounds_toArray, List.set_cons_zero, List.set_cons_succ]
          obtain ⟨na, hna⟩ : ∃ x, x = (if nl = f then la2 else Option.map (fun x => x.add f) la2) := ⟨_, rfl⟩
          rw [← hna]
          have HNA : Hid (na = (if nl = f then la2 else Option.map (fun x => x.add f) la2)) := hna
          clear hna
          refine till_take0 21 (some 135) (v := ?vg21) rfl rfl (by kernel_rfl) (by kernel_rfl) (by kernel_rfl) (fun _ _ _ h => h) (Or.inl ⟨by rfl, ?yg21⟩) hS0 ?rg21
          case yg21 => intro w' s0; go_simp; all_goals with_reducible rfl
          simp only [Act.put, List.setIfInBounds_toArray, List.set_cons_zero, List.set_cons_succ]
          refine till_take0 22 (some 136) (v := ?vg22) rfl rfl (by kernel_rfl) (by kernel_rfl) (by kernel_rfl) (fun _ _ _ h => h) (Or.inl ⟨by rfl, ?yg22⟩) hS0 ?rg22
          case yg22 => intro w' s0; go_simp; all_goals with_reducible rfl
          simp only [Act.put, List.setIfInBounds_toArray, List.set_cons_zero, List.set_cons_succ]
          refine till_take0 23 (some 137) (v := ?vg23) rfl rfl (by kernel_rfl) (by kernel_rfl) (by kernel_rfl) (fun _ _ _ h => h) (Or.inl ⟨by rfl, ?yg23⟩) hS0 ?rg23
          case yg23 => intro w' s0; go_simp; all_goals with_reducible rfl
          simp only [Act.put, List.setIfInBounds_toArray, List.set_cons_zero, List.set_cons_succ]
          refine till_take0 24 (some 138) (v := ?vg24) rfl rfl (by kernel_rfl) (by kernel_rfl) (by kernel_rfl) (fun _ _ _ h => h) (Or.inl ⟨by rfl, ?yg24⟩) hS0 ?rg24
          case yg24 => intro w' s0; go_simp; all_goals with_reducible rfl
          simp only [Act.put, List.setIfInBounds_toArray, List.set_cons_zero, List.set_cons_succ]
          refine till_take0 26 (some 140) (v := ?vg26) rfl rfl (by kernel_rfl) (by kernel_rfl) (by kernel_rfl) (fun _ _ _ h => h) (Or.inl ⟨by rfl, ?yg26⟩) hS0 ?rg26
          case yg26 => intro w' s0; go_simp; all_goals with_reducible rfl
          simp only [Act.put, List.setIfInBounds_toArray, List.set_cons_zero, List.set_cons_succ]
          refine till_take0 27 (some 141) (v := ?vg27) rfl rfl (by kernel_rfl) (by kernel_rfl) (by kernel_rfl) (fun _ _ _ h => h) (Or.inl ⟨by rfl, ?yg27⟩) hS0 ?rg27
          case yg27 => intro w' s0; go_simp; all_goals with_reducible rfl
          simp only [Act.put, List.setIfInBounds_toArray, List.set_cons_zero, List.set_cons_succ]
          refine till_take0 28 (some 142) (v := ?vg28) rfl rfl (by kernel_rfl) (by kernel_rfl) (by kernel_rfl) (fun _ _ _ h => h) (Or.inl ⟨by rfl, ?yg28⟩) hS0 ?rg28
          case yg28 => intro w' s0; go_simp; all_goals with_reducible rfl
          simp only [Act.put, List.setIfInBounds_toArray, List.set_cons_zero, List.set_cons_succ]
          refine till_take0 29 (some 143) (v := ?vg29) rfl rfl (by kernel_rfl) (by kernel_rfl) (by kernel_rfl) (fun _ _ _ h => h) (Or.inl ⟨by rfl, ?yg29⟩) hS0 ?rg29
          case yg29 => intro w' s0; go_simp; all_goals with_reducible rfl
          simp only [Act.put, List.setIfInBounds_toArray, List.set_cons_zero, List.set_cons_succ]
          refine till_take0 30 (some 144) (v := ?vg30) rfl rfl (by kernel_rfl) (by kernel_rfl) (by kernel_rfl) (fun _ _ _ h => h) (Or.inl ⟨by rfl, ?yg30⟩) hS0 ?rg30
          case yg30 => intro w' s0; go_simp; all_goals with_reducible rfl
          simp only [Act.put, List.setIfInBounds_toArray, List.set_cons_zero, List.set_cons_succ]
          refine till_one (i := 25) (by kernel_rfl) rfl rfl fun K hK => ?_
          go_simp
          refine (uint16_any mg nx (n - nx) (cap - nx) _ _ w2.drew (by omega) Y1 Y2 a1.1 a1.2 a2.1 a2.2 (by unfold maxLen; omega)).mono ?_
          rintro e w3 ⟨rfl, nq3, hw3⟩
          have g3 := grown_u16 w2 nq3
          rw [hw3] at g3
          clear hw3
          have s3 : w3.cell? ⟨mb, 1, none⟩ = some (.slice qa i qc) ∧ w3.cell? ⟨mb, 3, none⟩ = some (.slice la2 nl lc2) := ⟨g3.cell hc1 (by simp), g3.cell hc3 (by simp)⟩
          have p3 := g3.cell hp2 (by simp)
          have Z1' := g3.cell Z1 (by simp)
          have Z2' := g3.cell Z2 (by simp)
          refine hK _ _ (.inr fun _ => s3) (fun _ => p3) ?_
          clear hK K
          refine till_one (i := 31) (by kernel_rfl) rfl rfl fun K hK => ?_
          go_simp
          refine (uint16_any mg (nx + 2) (n - (nx + 2)) (cap - (nx + 2)) _ _ w3 (by omega) Z1' Z2' a3.1 a3.2 a4.1 a4.2 (by unfold maxLen; omega)).mono ?_
          rintro e w4 ⟨rfl, nq4, hw4⟩
          have g4 := grown_u16b w3 nq4
          rw [hw4] at g4
          clear hw4
          have s4 : w4.cell? ⟨mb, 1, none⟩ = some (.slice qa i qc) ∧ w4.cell? ⟨mb, 3, none⟩ = some (.slice la2 nl lc2) := ⟨g4.cell s3.1 (by simp), g4.cell s3.2 (by simp)⟩
          have p4 := g4.cell p3 (by simp)
          refine hK _ _ (.inr fun _ => s4) (fun _ => p4) ?_
          clear hK K
          refine till_take0 32 (some 146) (v := ?vg32) rfl rfl (by kernel_rfl) (by kernel_rfl) (by kernel_rfl) (fun _ _ _ h => h) (Or.inl ⟨by rfl, ?yg32⟩) p4 ?rg32
          case yg32 => intro w' s0; go_simp; all_goals with_reducible rfl
          simp only [Act.put, List.setIfInBounds_toArray, List.set_cons_zero, List.set_cons_succ]
          have g5 : w4.grownBy (w4.alloc (.cells #[.slice na (nl - f) (nl - f), .int .u16 (256 * x1 + x2), .int .u16 (256 * v1 + v2)] 73)) none := World.grownBy_alloc _ _ none
          have s5 : (w4.alloc (.cells #[.slice na (nl - f) (nl - f), .int .u16 (256 * x1 + x2), .int .u16 (256 * v1 + v2)] 73)).cell? ⟨mb, 1, none⟩ = some (.slice qa i qc) ∧ (w4.alloc (.cells #[.slice na (nl - f) (nl - f), .int .u16 (256 * x1 + x2), .int .u16 (256 * v1 + v2)] 73)).cell? ⟨mb, 3, none⟩ = some (.slice la2 nl lc2) := ⟨g5.cell s4.1 (by simp), g5.cell s4.2 (by simp)⟩
          have p5 := g5.cell p4 (by simp)
          have hsrc := Src.ofSlice (P := Ybaf.prog) (size := 3) (w4.alloc (.cells #[.slice na (nl - f) (nl - f), .int .u16 (256 * x1 + x2), .int .u16 (256 * v1 + v2)] 73)) Ybaf.underlying45 ⟨w4.heap.size, 0, none⟩ 1 1 [.slice na (nl - f) (nl - f), .int .u16 (256 * x1 + x2), .int .u16 (256 * v1 + v2)] rfl (news_alloc w4 [.slice na (nl - f) (nl - f), .int .u16 (256 * x1 + x2), .int .u16 (256 * v1 + v2)] 73) (by intro u hu; simp at hu; rcases hu with rfl | rfl | rfl <;> rfl)
          have gS := (((Goes.refl gM.own gM.size).grown g3).grown g4).grown g5
          have hrow5 : RowM (w4.alloc (.cells #[.slice na (nl - f) (nl - f), .int .u16 (256 * x1 + x2), .int .u16 (256 * v1 + v2)] 73)) B 73 3 (.slice qa i qc) i qxs := gS.own.get 1 rfl
          have hbk : i + 1 ≤ 100000000 := by omega
          have hf5 : (w4.alloc (.cells #[.slice na (nl - f) (nl - f), .int .u16 (256 * x1 + x2), .int .u16 (256 * v1 + v2)] 73)).frozen? ⟨mb, 1, none⟩ = false := gS.own.box_frozen 0 rfl 1 (by simp)
          refine till_one (i := 33) (by kernel_rfl) rfl rfl fun K hK => ?_
          go_simp
          refine hK _ _ (.inr fun _ => s5) (fun _ => p5) ?_
          clear hK K
          refine till_one (i := 34) (by kernel_rfl) rfl rfl fun K hK => ?_
          refine wp_append_rowK _ rfl (.tmp 118) (.tmp 147) 45 45 rfl B 73 i73 (.agg #[.slice none 0 0, .int .u16 0, .int .u16 0]) 3 32 Ybaf.underlying45 hi73 hz730 hz731 hz732 rfl (.slice qa i qc) i qxs rfl hrow5 _ 1 [.slice na (nl - f) (nl - f), .int .u16 (256 * x1 + x2), .int .u16 (256 * v1 + v2)] rfl hsrc (max_ok hbk) (bytes_ok hbk (by decide)) gS.size ?_
          intro v' w6 h1 h2 h3 h4 h5
          obtain ⟨qa', qc', rfl⟩ := h1.form
          have s6 : w6.cell? ⟨mb, 1, none⟩ = some (.slice qa i qc) ∧ w6.cell? ⟨mb, 3, none⟩ = some (.slice la2 nl lc2) := ⟨h2.cell s5.1 hrn, h2.cell s5.2 hrn⟩
          have p6 := h2.cell p5 hpn
          have hf6 : w6.frozen? ⟨mb, 1, none⟩ = false := by rw [h2.frozen_far ⟨mb, 1, none⟩ (World.block_lt_of_cell? _ _ s5.1) hrn]; exact hf5
          have gE : Goes B w2 (LM mb r (.slice qa i qc) ov (.slice la2 nl lc2) i qxs 0 [] (lxs ++ svs q.ls)) (w6.setCell ⟨mb, 1, none⟩ (.slice qa' (i + 1) qc')) (LM mb r (.slice qa' (i + 1) qc') ov (.slice la2 nl lc2) (i + 1) (qxs ++ [.slice na (nl - f) (nl - f), .int .u16 (256 * x1 + x2), .int .u16 (256 * v1 + v2)]) 0 [] (lxs ++ svs q.ls)) :=
            (gS.pushR 1 rfl h1 h2 h3 h4 (by decide)).setBox 0 rfl (by decide) 1 (by simp) _
          refine hK _ _ (.inr fun _ => s6) (fun _ => p6) ?_
          clear hK K
          simp only [Act.put, List.setIfInBounds_toArray, List.set_cons_zero, List.set_cons_succ]
          refine till_take0 35 (some 149) (v := ?vg35) rfl rfl (by kernel_rfl) (by kernel_rfl) (by kernel_rfl) (fun _ _ _ h => h) (Or.inl ⟨by rfl, ?yg35⟩) p6 ?rg35
          case yg35 => intro w' s0; go_simp; all_goals with_reducible rfl
          simp only [Act.put, List.setIfInBounds_toArray, List.set_cons_zero, List.set_cons_succ]
          refine till_take0 36 (some 150) (v := ?vg36) rfl rfl (by kernel_rfl) (by kernel_rfl) (by kernel_rfl) (fun _ _ _ h => h) (Or.inl ⟨by rfl, ?yg36⟩) p6 ?rg36
          case yg36 => intro w' s0; go_simp; all_goals with_reducible rfl
          simp only [Act.put, List.setIfInBounds_toArray, List.set_cons_zero, List.set_cons_succ]
          refine till_one (i := 37) (by kernel_rfl) rfl rfl fun K hK => ?_
          obtain ⟨c1, c3⟩ := s6
          go_simp
          refine hK _ _ (.inl (by decide)) (fun _ => (grown_setCell w6 mb 1 _).cell p6 (by simpa using hpm)) ?_
          clear hK K
          refine till_done (by kernel_rfl) ?_ _
          refine NoPanic.normal ?_
          go_wp2
          go_roundw
          case rel =>
            have hsn := (name_str gM.own HNL.out HF.out HNA.out).goes gE
            have hqn := qn_step HQ.out hi HQE.out (gN.trans gE) hsn HTY.out HCL.out
            refine ⟨i + 1, nx + 4, _, _, _, _, hi, by go_num, by go_num, ?_, hct, ?_, gM.trans gE, hqn⟩
            · show _ = _
              rw [HTK.out]; have := HO.out; have := HNX.out; omega
            · have := HNL.out
              rw [← this, HNF.out, HF.out]
              omega
          case measure => simp [intOf]; omega
        · have t4 : decide ((n : Int) < (nx : Int) + 4) = true := decide_eq_true (by omega)
          subst hlv
          go_wp2_with (first | (go_at_call 21; refine hnm'.mono ?_; rintro e w2 ⟨rfl, lv', gN⟩) | (go_at_call 16; refine (errorf_qc F ((i : Int) + 1) w2.heap.size _ (by show F.answers w2.tape; rw [gN.below.tape]; exact hFr) (by simp)).mono ?_; rintro e w3 ⟨v, rfl, hb3⟩))
          go_ret
          have hbT := ((hbel.trans gW.below).trans gN.below).alloc gN.size (.cells #[.iface 3 (.int .i64 ((i : Int) + 1))] 20)
          have hsT : B ≤ (w2.alloc (.cells #[.iface 3 (.int .i64 ((i : Int) + 1))] 20)).heap.size := by have := gN.size; simp; omega
          exact ⟨hbT.trans (hb3.mono hsT), Nat.le_trans hsT hb3.size, .inl ⟨_, _, rfl, .inl (by have := HNX.out; omega)⟩⟩
      · have hnm' := hnm.mono (R' := fun e w' => ∃ b s, w'.cell? ⟨b, 0, none⟩ = some (.string s) ∧ e = .returned (.tuple #[.int .i64 0, .iface 80 (.pointer (some ⟨b, 0, none⟩))]) ∧ Below B wr w' ∧ B ≤ w'.heap.size) (by rintro e w' (h | h); exact absurd h.1 hov; exact h.2)
        clear hnm
        have hFr : F.answers wr.tape := by rw [(hbel.trans gW.below).tape]; exact hF
        subst hlv
        go_wp2_with (first | (go_at_call 21; refine hnm'.mono ?_; rintro e w2 ⟨b, s, hbs, rfl, hb2, hs2⟩) | (go_at_call 16; refine (errorf_qw F ((i : Int) + 1) w2.heap.size b s _ (by show F.answers w2.tape; rw [hb2.tape]; exact hFr) (by simp) (by simp) ((World.grownBy_alloc w2 _ none).cell hbs (by simp))).mono ?_; rintro e w3 ⟨v, rfl, hb3⟩))
        go_ret
        have hbT := ((hbel.trans gW.below).trans hb2).alloc hs2 (.cells #[.iface 3 (.int .i64 ((i : Int) + 1)), .iface 80 (.pointer (some ⟨b, 0, none⟩))] 20)
        have hsT : B ≤ (w2.alloc (.cells #[.iface 3 (.int .i64 ((i : Int) + 1)), .iface 80 (.pointer (some ⟨b, 0, none⟩))] 20)).heap.size := by simp; omega
        exact ⟨hbT.trans (hb3.mono hsT), Nat.le_trans hsT hb3.size, .inl ⟨_, _, rfl, .inl (by omega)⟩⟩
    · have hie : i = qs.length := by omega
      have ht : decide ((i : Int) < (qs.length : Int)) = false := decide_eq_false (by omega)
      go_upto_if 81 with fail
      go_step
      rename_i K1 hK1 Q1 K2 hK2
      refine wp_exit ?_
      show K1 _ _
      refine hK1 _ _ ?_
      subst hie
      refine part27 F B mb mg n cap pb o N fl qs rs no nopt ps r qv ov lv qxs lxs w wr _ _ _ _ _ _ _ _ _ _ _ _ _ _ _ _ _ _ _ _ _ _ _ _ _ _ _ _ _ _ _ _ _ _ _ _ _ _ _ _ _ _ _ _ _ _ _ _ _ _ _ _ _ _ _ _ _ _ _ _ _ _ _ _ _ _ _ _ _ _ _ _ _ _ _ _ _ _ _ _ _ _ _ _ _ _ _ _ _ _ _ _ _ _ _ _ _ _ _ _ _ _ _ _ _ _ _ _ _ _ _ _ _ _ _ _ _ _ _ _ _ _ _ _ _ _ _ _ _ _ _ _ _ _ _ _ _ _ _ _ _ _ _ _ _ _ _ _ _ _ _ _ _ _ _ _ _ _ _ _ _ _ _ _ _ _ _ _ _ _ _ _ _ _ _ _ _ _ _ _ _ _ _ _ _ _ _ _ _ hr hF hW hmg hM hn hnM hcap hcm hN (hbel.trans gW.below) gW.own gW.size hp1 hpS1 (by have := HO.out; rw [List.take_length] at this; exact this) hon (by have := HQ.out; rw [List.take_length] at this; exact this)

end Go.Proofs.YbulkaxhmFmt
