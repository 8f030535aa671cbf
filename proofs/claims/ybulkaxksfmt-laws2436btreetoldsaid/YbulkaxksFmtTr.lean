/-
  newMAPShape: the tree's levels.
-/
import Derived.Test.YbulkaxksFmtTr1
set_option linter.unusedVariables false
set_option linter.unusedSimpArgs false
namespace Go.Proofs.YbulkaxksFmt
open Go.RowKit

theorem CRel.weaken {B : Nat} {w : World} {g lo rb : Nat} {ps : List Nat} {D : Nat → Nat} {lvs pvs : List Value} {LS PS : List (List Int)} {fb m : Nat} {R : List RowS} {W0 : Int} {ao : Option Addr} {lst : List Nat} {cnt cnt' : Nat} {W : Int} {la pa : Value} {wr : World}
    (h : CRel B w g lo rb ps D lvs pvs LS PS fb m R W0 ao lst cnt W la pa wr) (hc : cnt ≤ cnt') : CRel B w g lo rb ps D lvs pvs LS PS fb m R W0 none [] cnt' W la pa wr := by
  obtain ⟨lal, pal, fxs, e1, e2, e3, e4, e5, e6, gX, J1, J2, JR, -⟩ := h
  exact ⟨lal, pal, fxs, e1, by omega, e3, e4, e5, e6, gX, J1, J2, JR, fun j hj => absurd hj (Nat.not_lt_zero _)⟩

set_option maxRecDepth 1000000 in
set_option maxHeartbeats 2000000 in
theorem shape_tree (B nb src sb rb g q lo gs : Nat) (ps : List Nat) (D : Nat → Nat) (rounds few lev H W : Int) (corr fully : Bool) (off : Value) (w w1 : World)
    (u5 u6 u7 u8 u9 u10 u11 u14 u17 u18 u19 u20 u21 u24 u25 u26 u27 u28 u29 u30 u31 u32 u33 u34 u35 u36 u37 u38 u39 u40 u41 u42 u43 u44 u45 u46 u47 u48 u49 u50 u51 u52 u53 u54 u55 u56 u57 u58 u59 u60 u61 u62 u63 u64 u65 u66 u67 u68 u69 u70 u71 u72 u73 u74 u75 u76 u77 u78 u79 u80 u81 u82 u83 u84 u85 u86 u87 u88 u89 u90 u91 u92 u93 u94 u95 u96 u97 u98 u99 u100 u101 u102 u103 u104 u105 u106 u107 u108 u109 u110 u111 u112 u113 u114 u115 u116 u117 u118 u119 u120 u121 u122 u123 u124 u125 u126 u127 u128 u129 u130 u131 u132 u133 u134 u135 u136 u137 u138 u139 u140 u141 u142 u143 u144 u145 u146 u147 u148 u149 u150 u151 u152 u153 u154 u155 u156 u157 u158 u159 u160 u161 u162 u163 u164 u165 u166 u167 u168 u169 u170 u171 u172 u173 u174 u175 u176 u177 u178 u179 u180 u181 u182 u183 u184 u185 u186 u187 u188 u189 u190 u191 u192 u193 u194 u195 u196 u197 u198 u199 u200 u201 u202 u203 u204 u205 u206 u207 u208 u209 u210 u211 u212 u213 u214 u215 u216 u217 u218 u219 u220 u221 u222 u223 u224 u225 u226 u227 u228 u229 u230 u231 u232 u233 u234 u235 u236 u237 u238 u239 u240 u241 u242 u243 u244 u245 u246 u247 u248 u249 u250 u251 u252 u253 u254 u255 u256 u257 u258 u259 u260 u261 u262 u263 u264 u265 u266 u267 u268 u269 u270 u271 u272 u273 u274 u275 u276 u277 u278 u279 u280 u281 u282 u283 u284 u285 u286 u287 u288 u289 u290 u291 u292 u293 : Value)
    (HG : Hid (g = ps.length)) (hg4 : g ≤ 4) (HQ : Hid (q = ps.sum)) (hq : q ≤ 12) (hsrc : src < q) (hD : Hid (∀ a, D a ≤ 12)) (hlev : -1 ≤ lev ∧ lev ≤ 4) (hH : -7536 ≤ H ∧ H ≤ 7536)
    (R0 : C3Rel B w g lo rb sb ps D gs (shXs rb rounds src off corr few fully) 0 W w1) :
    Code.wp Ybaf.prog code10_26 (bodyPost Ybaf.prog Ybaf.f10 (TreePost B w g lo rb sb ps D gs (shXs rb rounds src off corr few fully) lev)) ⟨#[.pointer (some ⟨nb, 0, none⟩), .int .i64 (src : Int), .int .i64 rounds, .bool corr, .int .i64 few, u5, u6, u7, u8, u9, u10, u11, .int .i64 (g : Int), .int .i64 (q : Int), u14, .pointer (some ⟨sb, 0, none⟩), .int .i64 H, u17, u18, u19, u20, u21, .int .i64 W, .int .i64 lev, u24, u25, u26, u27, u28, u29, u30, u31, u32, u33, u34, u35, u36, u37, u38, u39, u40, u41, u42, u43, u44, u45, u46, u47, u48, u49, u50, u51, u52, u53, u54, u55, u56, u57, u58, u59, u60, u61, u62, u63, u64, u65, u66, u67, u68, u69, u70, u71, u72, u73, u74, u75, u76, u77, u78, u79, u80, u81, u82, u83, u84, u85, u86, u87, u88, u89, u90, u91, u92, u93, u94, u95, u96, u97, u98, u99, u100, u101, u102, u103, u104, u105, u106, u107, u108, u109, u110, u111, u112, u113, u114, u115, u116, u117, u118, u119, u120, u121, u122, u123, u124, u125, u126, u127, u128, u129, u130, u131, u132, u133, u134, u135, u136, u137, u138, u139, u140, u141, u142, u143, u144, u145, u146, u147, u148, u149, u150, u151, u152, u153, u154, u155, u156, u157, u158, u159, u160, u161, u162, u163, u164, u165, u166, u167, u168, u169, u170, u171, u172, u173, u174, u175, u176, u177, u178, u179, u180, u181, u182, u183, u184, u185, u186, u187, u188, u189, u190, u191, u192, u193, u194, u195, u196, u197, u198, u199, u200, u201, u202, u203, u204, u205, u206, u207, u208, u209, u210, u211, u212, u213, u214, u215, u216, u217, u218, u219, u220, u221, u222, u223, u224, u225, u226, u227, u228, u229, u230, u231, u232, u233, u234, u235, u236, u237, u238, u239, u240, u241, u242, u243, u244, u245, u246, u247, u248, u249, u250, u251, u252, u253, u254, u255, u256, u257, u258, u259, u260, u261, u262, u263, u264, u265, u266, u267, u268, u269, u270, u271, u272, u273, u274, u275, u276, u277, u278, u279, u280, u281, u282, u283, u284, u285, u286, u287, u288, u289, u290, u291, u292, u293], []⟩ w1 := by
  obtain ⟨i21, hi21, hz210, hz211, hz212⟩ := info_parts Ybaf.kinfo21
  obtain ⟨i47, hi47, hz470, hz471, hz472⟩ := info_parts Ybaf.kinfo47
  have HR0 : Hid (C3Rel B w g lo rb sb ps D gs (shXs rb rounds src off corr few fully) 0 W w1) := R0
  clear R0
  have hwl : IntKind.i64.wrap (lev - 1) = lev - 1 := by rw [IntKind.wrap_i64]; omega
  conv => arg 2; whnf
  go_wp2_with fail
  go_loopw [22, 24] (fun a b wr => ∃ (k : Nat) (W' : Int), a = .int .i64 W' ∧ b = .int .i64 (k : Int) ∧ ((k : Int) = 0 ∨ (k : Int) ≤ lev - 1) ∧ Hid (C3Rel B w g lo rb sb ps D gs (shXs rb rounds src off corr few fully) k W' wr)) (fun _ b _ => (lev - 1 - intOf b).toNat)
  case atStart => exact ⟨0, W, rfl, rfl, .inl rfl, HR0⟩
  case round =>
    obtain ⟨k, W', rfl, rfl, hkl, HC⟩ := hrel
    by_cases hlt : (k : Int) < lev - 1
    · have hk2 : k ≤ 2 := by omega
      obtain ⟨tb, tc, pb, pc, fv, lvs, pvs, fvs, LS, PS, hLl, hfl, hok, hL0, hP0, hLb, hWb, gW, hI1, hI2, hR⟩ := HC.out
      obtain ⟨fva, fvc, hfv⟩ := (gW.rowAt 2 rfl).form
      rw [hfl] at hfv
      subst hfv
      have hkL : k < LS.length := by omega
      obtain ⟨m, hm⟩ : ∃ m, m = LS[k].length := ⟨_, rfl⟩
      have hm169 : m ≤ 169 := by rw [hm]; exact Nat.le_trans (hLb k hkL) (Nat.le_trans (Nat.pow_le_pow_right (by decide) hk2) (by decide))
      obtain ⟨ao0, cap0, hva, hia⟩ := hI1.2 k hkL
      rw [← hm] at hva
      have q12 := gW.own.box_cell 3 rfl 12 rfl
      have ck := (gW.cellAt 0 (e := 47) (g := tb) (n := k + 1) (cap := tc) (xs := lvs) rfl k hva).1
      have hb21 : i21.bytes * (m + 1) ≤ 281474976710656 := by rw [hz212]; omega
      have hki : (k : Int) < ((k + 1 : Nat) : Int) := by omega
      have hki' : (k : Int) < (k : Int) + 1 := by omega
      have hwm : IntKind.i64.wrap ((m : Int) + 1) = (m : Int) + 1 := by rw [IntKind.wrap_i64]; omega
      have HVA : Hid (lvs[k]? = some (.slice ao0 m cap0)) := hva
      have HM : Hid (m = LS[k].length) := hm
      have HOK : Hid (TreeOk g LS PS) := hok
      have HL0 : Hid (LS[0]? = some [(gs : Int)]) := hL0
      have HP0 : Hid (PS[0]? = some [-1]) := hP0
      have HLB : Hid (∀ j (hj : j < LS.length), LS[j].length ≤ 13 ^ j) := hLb
      have HLl : Hid (LS.length = k + 1) := hLl
      have HFl : Hid (fvs.length = k) := hfl
      have HCS : Hid (∀ l ∈ LS, l.length ≤ 10000) := fun l hl => by
        obtain ⟨j, hj, rfl⟩ := List.getElem_of_mem hl
        exact Nat.le_trans (hLb j hj) (Nat.le_trans (Nat.pow_le_pow_right (by decide) (by omega : j ≤ 2)) (by decide))
      clear hva hm hok hL0 hP0 hLb hLl hfl hia HC
      go_upto_region 31 with (at_make; refine wpList_make_full _ rfl (.tmp 203) (.tmp 203) 47 rfl B 21 i21 (.int .i32 0) 1 Ybaf.underlying47 hi21 hz210 hz211 .i64 .i64 _ _ (m + 1) rfl rfl (by simp) (by simp) hb21 (by unfold maxLen; omega) gW.size ?_; intro w2 hown hgrow)
      rw [made_i32] at hown
      obtain ⟨fb, hfb⟩ : ∃ x, x = wr.heap.size := ⟨_, rfl⟩
      have GT := ((((Goes.refl gW.own gW.size).cons (r := rowOf 21 (.slice (some ⟨fb, 0, none⟩) (m + 1) (m + 1)) (List.replicate (m + 1) (.int .i32 0))) (by rw [hfb]; unfold RowS.at rowOf; simpa using RowM.of_owns hown) hgrow (fun k hk => by simp [rowOf, Value.ownBlock] at hk; omega)).nilRow 21).nilRow 21)
      have gX := gW.trans GT
      have HC4 : Hid (CRel B w g lo rb ps D lvs pvs LS PS fb m (TL sb (shXs rb rounds src off corr few fully) (.slice (some ⟨tb, 0, none⟩) (k + 1) tc) (.slice (some ⟨pb, 0, none⟩) (k + 1) pc) (.slice fva k fvc) lvs pvs fvs) (8000 + 16582956 * (k : Int)) none [] (13 * 0) W' (.slice none 0 0) (.slice none 0 0) w2) :=
        ⟨[], [], List.replicate (m + 1) (.int .i32 0), rfl, Nat.zero_le _, (fun x hx => (by cases hx)), (fun x hx => (by cases hx)), by simp, by simpa using hWb, gX, hI1.goes GT, hI2.goes GT, hR.goes GT, fun j hj => absurd hj (Nat.not_lt_zero _)⟩
      have q12' := gX.own.box_cell 6 rfl 12 rfl
      have ck' := (gX.cellAt 3 (e := 47) (g := tb) (n := k + 1) (cap := tc) (xs := lvs) rfl k HVA.out).1
      rw [← hfb]
      clear GT gX hfb hown hgrow gW hI1 hI2 hR q12 ck
      go_wp2_with fail
      go_loopw [22, 25, 26, 213] (fun a b c d wr => ∃ (c' : Nat) (W2 : Int), c' ≤ m ∧ a = .int .i64 W2 ∧ d = .int .i64 (c' : Int) ∧ Hid (CRel B w g lo rb ps D lvs pvs LS PS fb m (TL sb (shXs rb rounds src off corr few fully) (.slice (some ⟨tb, 0, none⟩) (k + 1) tc) (.slice (some ⟨pb, 0, none⟩) (k + 1) pc) (.slice fva k fvc) lvs pvs fvs) (8000 + 16582956 * (k : Int)) none [] (13 * c') W2 b c wr)) (fun _ _ _ d _ => m - (intOf d).toNat)
      case atStart => exact ⟨0, W', Nat.zero_le _, rfl, rfl, HC4⟩
      case round =>
        clear HC4 q12' ck'
        obtain ⟨c', W2, hcm, rfl, rfl, HC⟩ := hrel
        by_cases hclt : c' < m
        · have hci : (c' : Int) < (m : Int) := by omega
          obtain ⟨lal, pal, fxs, e1, e2, e3, e4, e5, e6, gX, J1, J2, JR, -⟩ := HC.out
          obtain ⟨ao', cap', hv', hi'⟩ := J1.2 k hkL
          rw [HVA.out] at hv'
          injection hv' with hv'
          injection hv' with hv1 hv2 hv3
          subst hv1
          clear hv2 hv3
          obtain ⟨eb, hao, ce, -⟩ := hi' c' (by have := HM.out; omega)
          clear hi'
          subst hao
          obtain ⟨x, hx⟩ : ∃ x, x = LS[k][c']'(by have := HM.out; omega) := ⟨_, rfl⟩
          have hxr : 0 ≤ x ∧ x < (g : Int) := by rw [hx]; exact HOK.out.2.2.1 _ (List.getElem_mem hkL) _ (List.getElem_mem _)
          rw [← hx] at ce
          clear hx
          obtain ⟨en, hen⟩ : ∃ n : Nat, x = (n : Int) := ⟨x.toNat, by omega⟩
          subst hen
          have heng : en < g := by omega
          obtain ⟨fx0, hfx⟩ : ∃ v, fxs[c']? = some v := ⟨fxs[c']'(by omega), List.getElem?_eq_getElem _⟩
          have cf := (gX.cellAt 2 (e := 21) (g := fb) (n := m + 1) (cap := m + 1) (xs := fxs) rfl c' hfx).1
          have ff := (gX.cellAt 2 (e := 21) (g := fb) (n := m + 1) (cap := m + 1) (xs := fxs) rfl c' hfx).2
          obtain ⟨laa, lac, hlaf⟩ := (gX.rowAt 0 rfl).form
          rw [i32s_length] at hlaf
          subst hlaf
          have hl2 : lal.length ≤ 2197 := by omega
          have hw32 : IntKind.i32.wrap (lal.length : Int) = (lal.length : Int) := by rw [IntKind.wrap_i32]; omega
          have hwen : IntKind.i64.wrap (en : Int) = (en : Int) := by rw [IntKind.wrap_i64]; omega
          have hcm1 : (c' : Int) < (m : Int) + 1 := by omega
          have HE1 : Hid (lal.length = pal.length) := e1
          have HE5 : Hid (fxs.length = m + 1) := e5
          have HE3 : Hid (∀ x ∈ lal, 0 ≤ x ∧ x < (g : Int)) := e3
          have HE4 : Hid (∀ x ∈ pal, 0 ≤ x ∧ x < (m : Int)) := e4
          have HJ1 : Hid (InnerL wr (CL (.slice laa lal.length lac) u26 lal pal fb m fxs (TL sb (shXs rb rounds src off corr few fully) (.slice (some ⟨tb, 0, none⟩) (k + 1) tc) (.slice (some ⟨pb, 0, none⟩) (k + 1) pc) (.slice fva k fvc) lvs pvs fvs)) lvs LS) := J1
          have HJ2 : Hid (InnerL wr (CL (.slice laa lal.length lac) u26 lal pal fb m fxs (TL sb (shXs rb rounds src off corr few fully) (.slice (some ⟨tb, 0, none⟩) (k + 1) tc) (.slice (some ⟨pb, 0, none⟩) (k + 1) pc) (.slice fva k fvc) lvs pvs fvs)) pvs PS) := J2
          have HJR : Hid (ReachL lo wr (CL (.slice laa lal.length lac) u26 lal pal fb m fxs (TL sb (shXs rb rounds src off corr few fully) (.slice (some ⟨tb, 0, none⟩) (k + 1) tc) (.slice (some ⟨pb, 0, none⟩) (k + 1) pc) (.slice fva k fvc) lvs pvs fvs)) rb ps D) := JR
          clear e1 e3 e4 e5 J1 J2 JR hfx HC
          go_upto_region 35 with fail
          have GT := (Goes.refl gX.own gX.size).setAt 2 (e := 21) (g := fb) (n := m + 1) (cap := m + 1) (xs := fxs) rfl (by decide) c' (.int .i32 (lal.length : Int))
          obtain ⟨w3, hw3⟩ : ∃ W, W = wr.setCell ⟨fb, c', none⟩ (.int .i32 (lal.length : Int)) := ⟨_, rfl⟩
          obtain ⟨fx2, hfx2⟩ : ∃ l, l = fxs.set c' (.int .i32 (lal.length : Int)) := ⟨_, rfl⟩
          have HF2 : Hid (fx2.length = m + 1) := by show _ = _; rw [hfx2, List.length_set]; exact HE5.out
          have GT' : Goes B wr (CL (.slice laa lal.length lac) u26 lal pal fb m fxs (TL sb (shXs rb rounds src off corr few fully) (.slice (some ⟨tb, 0, none⟩) (k + 1) tc) (.slice (some ⟨pb, 0, none⟩) (k + 1) pc) (.slice fva k fvc) lvs pvs fvs)) w3 (CL (.slice laa lal.length lac) u26 lal pal fb m fx2 (TL sb (shXs rb rounds src off corr few fully) (.slice (some ⟨tb, 0, none⟩) (k + 1) tc) (.slice (some ⟨pb, 0, none⟩) (k + 1) pc) (.slice fva k fvc) lvs pvs fvs)) := by rw [hw3, hfx2]; exact GT
          have gY := gX.trans GT'
          have HK1 : Hid (InnerL w3 (CL (.slice laa lal.length lac) u26 lal pal fb m fx2 (TL sb (shXs rb rounds src off corr few fully) (.slice (some ⟨tb, 0, none⟩) (k + 1) tc) (.slice (some ⟨pb, 0, none⟩) (k + 1) pc) (.slice fva k fvc) lvs pvs fvs)) lvs LS) := HJ1.out.goes GT'
          have HK2 : Hid (InnerL w3 (CL (.slice laa lal.length lac) u26 lal pal fb m fx2 (TL sb (shXs rb rounds src off corr few fully) (.slice (some ⟨tb, 0, none⟩) (k + 1) tc) (.slice (some ⟨pb, 0, none⟩) (k + 1) pc) (.slice fva k fvc) lvs pvs fvs)) pvs PS) := HJ2.out.goes GT'
          have HKR : Hid (ReachL lo w3 (CL (.slice laa lal.length lac) u26 lal pal fb m fx2 (TL sb (shXs rb rounds src off corr few fully) (.slice (some ⟨tb, 0, none⟩) (k + 1) tc) (.slice (some ⟨pb, 0, none⟩) (k + 1) pc) (.slice fva k fvc) lvs pvs fvs)) rb ps D) := HJR.out.goes GT'
          have HT : Hid (TreeAt w3 sb LS PS) := by
            refine ⟨tb, tc, pb, pc, lvs, pvs, ?_, ?_, ?_, ?_, HK1.out.at, HK2.out.at⟩
            · rw [HLl.out]; exact gY.own.box_cell 6 rfl 12 rfl
            · rw [← HOK.out.1, HLl.out]; exact gY.own.box_cell 6 rfl 13 rfl
            · intro j v hv; exact (gY.cellAt 3 (e := 47) (g := tb) (n := k + 1) (cap := tc) (xs := lvs) rfl j hv).1
            · intro j v hv; exact (gY.cellAt 4 (e := 47) (g := pb) (n := k + 1) (cap := pc) (xs := pvs) rfl j hv).1
          have HCH := child_any sb rb k c' en src lo few fully ps D (CL (.slice laa lal.length lac) u26 lal pal fb m fx2 (TL sb (shXs rb rounds src off corr few fully) (.slice (some ⟨tb, 0, none⟩) (k + 1) tc) (.slice (some ⟨pb, 0, none⟩) (k + 1) pc) (.slice fva k fvc) lvs pvs fvs)) LS PS w3 (gY.own.box_cell 6 rfl 0 rfl) (gY.own.box_cell 6 rfl 2 rfl) (gY.own.box_cell 6 rfl 8 rfl) (gY.own.box_cell 6 rfl 9 rfl) HKR (by rw [← HQ.out]; exact hsrc) (by rw [← HG.out]; exact hg4) (by rw [← HQ.out]; exact hq) hD HT (by rw [← HG.out]; exact HOK) ⟨hkL, by have := HM.out; omega⟩ (by show _ ≤ _; rw [HLl.out]; omega) HCS (by rw [← HG.out]; exact heng) (by omega) gY.own.lts
          rw [← hw3]
          clear GT GT' hw3 hfx2 HJ1 HJ2 HJR HE5 gX cf ff ce HT
          go_wp2_with (go_at_call 17; refine HCH.mono ?_; rintro e w4 ⟨ca, lst, lcap, rfl, hl13, hlx, hnl, hbl⟩)
          have GT5 := (Goes.refl gY.own gY.size).grown (Below.asGrown hbl)
          have HC5 : Hid (CRel B w g lo rb ps D lvs pvs LS PS fb m (TL sb (shXs rb rounds src off corr few fully) (.slice (some ⟨tb, 0, none⟩) (k + 1) tc) (.slice (some ⟨pb, 0, none⟩) (k + 1) pc) (.slice fva k fvc) lvs pvs fvs) (8000 + 16582956 * (k : Int)) ca lst (13 * c' + 0) W2 (.slice laa lal.length lac) u26 w4) := ⟨lal, pal, fx2, HE1.out, e2, HE3.out, HE4.out, HF2.out, e6, gY.trans GT5, HK1.out.goes GT5, HK2.out.goes GT5, HKR.out.goes GT5, hnl⟩
          have HLX : Hid (∀ x ∈ lst, x < g) := by show _; rw [HG.out]; exact hlx
          clear GT5 gY HK1 HK2 HKR hnl hbl hlx HE1 HE3 HE4 HF2 e2 e6 hl2 hw32
          go_loopw [22, 25, 26, 231] (fun a b c d wr => ∃ (j : Nat) (W3 : Int), j ≤ lst.length ∧ a = .int .i64 W3 ∧ d = .int .i64 (j : Int) ∧ Hid (CRel B w g lo rb ps D lvs pvs LS PS fb m (TL sb (shXs rb rounds src off corr few fully) (.slice (some ⟨tb, 0, none⟩) (k + 1) tc) (.slice (some ⟨pb, 0, none⟩) (k + 1) pc) (.slice fva k fvc) lvs pvs fvs) (8000 + 16582956 * (k : Int)) ca lst (13 * c' + j) W3 b c wr)) (fun _ _ _ d _ => lst.length - (intOf d).toNat)
          case atStart => exact ⟨0, W2, Nat.zero_le _, rfl, rfl, HC5⟩
          case round =>
            clear HC5 HCH
            obtain ⟨j, W3, hj, rfl, rfl, HC⟩ := hrel
            by_cases hjl : j < lst.length
            · have hji : (j : Int) < (lst.length : Int) := by omega
              obtain ⟨lal, pal, fxs, e1, e2, e3, e4, e5, e6, gX, J1, J2, JR, JN⟩ := HC.out
              obtain ⟨lb, hca, -, cj, -⟩ := JN j hjl
              subst hca
              obtain ⟨h, hh⟩ : ∃ h, h = lst[j] := ⟨_, rfl⟩
              have hhg : h < g := by rw [hh]; exact HLX.out _ (List.getElem_mem hjl)
              rw [← hh] at cj
              unfold iv at cj
              clear hh
              have hl2 : lal.length ≤ 2197 := by omega
              have hl3 : pal.length ≤ 2197 := by omega
              have hwh : IntKind.i32.wrap (h : Int) = (h : Int) := by rw [IntKind.wrap_i32]; omega
              have hwc : IntKind.i32.wrap (c' : Int) = (c' : Int) := by rw [IntKind.wrap_i32]; omega
              have hZ : IntKind.i64.wrap ((q : Int) + H) = (q : Int) + H := by rw [IntKind.wrap_i64]; omega
              have hWZ : IntKind.i64.wrap (W3 + ((q : Int) + H)) = W3 + ((q : Int) + H) := by rw [IntKind.wrap_i64]; omega
              have hgt : decide (268435456 < W3 + ((q : Int) + H)) = false := decide_eq_false (by omega)
              have hb1 : (i32s lal).length + 1 ≤ 100000000 := by rw [i32s_length]; omega
              have hb2 : (i32s pal).length + 1 ≤ 100000000 := by rw [i32s_length]; omega
              have HE : Hid (lal.length = pal.length ∧ fxs.length = m + 1) := ⟨e1, e5⟩
              have HE3 : Hid (∀ x ∈ lal, 0 ≤ x ∧ x < (g : Int)) := e3
              have HE4 : Hid (∀ x ∈ pal, 0 ≤ x ∧ x < (m : Int)) := e4
              have HE6 : Hid (-((8000 + 16582956 * (k : Int)) + 7548 * (lal.length : Int)) ≤ W3 ∧ W3 ≤ (8000 + 16582956 * (k : Int)) + 7548 * (lal.length : Int)) := e6
              have HJ : Hid (InnerL wr (CL u25 u26 lal pal fb m fxs (TL sb (shXs rb rounds src off corr few fully) (.slice (some ⟨tb, 0, none⟩) (k + 1) tc) (.slice (some ⟨pb, 0, none⟩) (k + 1) pc) (.slice fva k fvc) lvs pvs fvs)) lvs LS ∧ InnerL wr (CL u25 u26 lal pal fb m fxs (TL sb (shXs rb rounds src off corr few fully) (.slice (some ⟨tb, 0, none⟩) (k + 1) tc) (.slice (some ⟨pb, 0, none⟩) (k + 1) pc) (.slice fva k fvc) lvs pvs fvs)) pvs PS ∧ ReachL lo wr (CL u25 u26 lal pal fb m fxs (TL sb (shXs rb rounds src off corr few fully) (.slice (some ⟨tb, 0, none⟩) (k + 1) tc) (.slice (some ⟨pb, 0, none⟩) (k + 1) pc) (.slice fva k fvc) lvs pvs fvs)) rb ps D ∧ NatsL 0 wr (CL u25 u26 lal pal fb m fxs (TL sb (shXs rb rounds src off corr few fully) (.slice (some ⟨tb, 0, none⟩) (k + 1) tc) (.slice (some ⟨pb, 0, none⟩) (k + 1) pc) (.slice fva k fvc) lvs pvs fvs)) (some ⟨lb, 0, none⟩) lst) := ⟨J1, J2, JR, JN⟩
              clear e1 e3 e4 e5 e6 J1 J2 JR JN HC
              obtain ⟨wi, rfl⟩ : ∃ x : World, x = wr := ⟨_, rfl⟩
              go_upto_region 39 with (first
                | (at_builtin; refine wpList_append_rowK _ rfl (.tmp 235) (.tmp 238) 47 47 rfl B 21 i21 (.int .i32 0) 1 4 Ybaf.underlying47 hi21 hz210 hz211 hz212 rfl u25 (i32s lal).length (i32s lal) rfl ((gX.rowAt 0 rfl).alloc _) _ 1 [.int .i32 (h : Int)] rfl (Src.ofSlice (P := Ybaf.prog) (size := 1) (wi.alloc (.cells #[.int .i32 (h : Int)] 21)) Ybaf.underlying47 ⟨wi.heap.size, 0, none⟩ 1 1 [.int .i32 (h : Int)] rfl (news_alloc wi [.int .i32 (h : Int)] 21) (by intro u hu; simp at hu; subst hu; rfl)) (max_ok hb1) (bytes_ok hb1 (by decide)) (by have := gX.size; simp; omega) ?_; intro la1 w5 h1 h2 h3 h4 h5; have gY := gX.push 0 rfl rfl h1 h2 (by simpa using h3) (by simpa using h4); have GA := (Goes.refl gX.own gX.size).push 0 rfl rfl h1 h2 (by simpa using h3) (by simpa using h4); clear h1 h2 h3 h4 h5)
                | (at_builtin; refine wpList_append_rowK _ rfl (.tmp 240) (.tmp 243) 47 47 rfl B 21 i21 (.int .i32 0) 1 4 Ybaf.underlying47 hi21 hz210 hz211 hz212 rfl u26 (i32s pal).length (i32s pal) rfl ((gY.rowAt 1 rfl).alloc _) _ 1 [.int .i32 (c' : Int)] rfl (Src.ofSlice (P := Ybaf.prog) (size := 1) (w5.alloc (.cells #[.int .i32 (c' : Int)] 21)) Ybaf.underlying47 ⟨w5.heap.size, 0, none⟩ 1 1 [.int .i32 (c' : Int)] rfl (news_alloc w5 [.int .i32 (c' : Int)] 21) (by intro u hu; simp at hu; subst hu; rfl)) (max_ok hb2) (bytes_ok hb2 (by decide)) (by have := gY.size; simp; omega) ?_; intro pa1 w6 h1 h2 h3 h4 h5; have GB := GA.push 1 rfl rfl h1 h2 (by simpa using h3) (by simpa using h4); clear h1 h2 h3 h4 h5))
              go_wp2_with fail
              go_roundw
              case rel =>
                refine ⟨j + 1, W3 + ((q : Int) + H), hjl, rfl, by go_num, ?_⟩
                have eL : (CL la1 pa1 (lal ++ [(h : Int)]) (pal ++ [(c' : Int)]) fb m fxs (TL sb (shXs rb rounds src off corr few fully) (.slice (some ⟨tb, 0, none⟩) (k + 1) tc) (.slice (some ⟨pb, 0, none⟩) (k + 1) pc) (.slice fva k fvc) lvs pvs fvs)) = (((CL u25 u26 lal pal fb m fxs (TL sb (shXs rb rounds src off corr few fully) (.slice (some ⟨tb, 0, none⟩) (k + 1) tc) (.slice (some ⟨pb, 0, none⟩) (k + 1) pc) (.slice fva k fvc) lvs pvs fvs)).set 0 (rowOf 21 la1 (i32s lal ++ [.int .i32 (h : Int)]))).set 1 (rowOf 21 pa1 (i32s pal ++ [.int .i32 (c' : Int)]))) := by
                  unfold CL
                  rw [i32s_snoc, i32s_snoc]
                  rfl
                rw [← eL] at GB
                refine ⟨lal ++ [(h : Int)], pal ++ [(c' : Int)], fxs, by simp [HE.out.1], by simp; omega, ?_, ?_, HE.out.2, ?_, gX.trans GB, HJ.out.1.goes GB, HJ.out.2.1.goes GB, HJ.out.2.2.1.goes GB, HJ.out.2.2.2.goes GB⟩
                · intro x hx
                  rcases List.mem_append.1 hx with h' | h'
                  · exact HE3.out x h'
                  · simp at h'; omega
                · intro x hx
                  rcases List.mem_append.1 hx with h' | h'
                  · exact HE4.out x h'
                  · simp at h'; omega
                · have := HE6.out
                  simp only [List.length_append, List.length_cons, List.length_nil]
                  omega
              case measure => simp [intOf]; omega
            · have hji : decide ((j : Int) < (lst.length : Int)) = false := decide_eq_false (by omega)
              go_wp2_with fail
              go_roundw
              case rel => exact ⟨c' + 1, W3, hclt, rfl, by go_num, HC.out.weaken (by omega)⟩
              case measure => simp [intOf]; omega
        · have hce : c' = m := by omega
          subst hce
          have hci : decide ((c' : Int) < (c' : Int)) = false := decide_eq_false (by omega)
          obtain ⟨lal, pal, fxs, e1, e2, e3, e4, e5, e6, gX, J1, J2, JR, -⟩ := HC.out
          obtain ⟨laa, lac, hlaf⟩ := (gX.rowAt 0 rfl).form
          obtain ⟨paa, pac, hpaf⟩ := (gX.rowAt 1 rfl).form
          rw [i32s_length] at hlaf hpaf
          subst hlaf
          subst hpaf
          obtain ⟨m, hmc⟩ : ∃ m, m = c' := ⟨_, rfl⟩
          subst hmc
          obtain ⟨fx0, hfx⟩ : ∃ v, fxs[m]? = some v := ⟨fxs[m]'(by omega), List.getElem?_eq_getElem _⟩
          have cf := (gX.cellAt 2 (e := 21) (g := fb) (n := m + 1) (cap := m + 1) (xs := fxs) rfl m hfx).1
          have ff := (gX.cellAt 2 (e := 21) (g := fb) (n := m + 1) (cap := m + 1) (xs := fxs) rfl m hfx).2
          have hl2 : lal.length ≤ 2197 := by omega
          have hw32 : IntKind.i32.wrap (lal.length : Int) = (lal.length : Int) := by rw [IntKind.wrap_i32]; omega
          have hwm1 : IntKind.i64.wrap (m : Int) = (m : Int) := by rw [IntKind.wrap_i64]; omega
          have hmi : (m : Int) < (m : Int) + 1 := by omega
          have HE : Hid (lal.length = pal.length ∧ fxs.length = m + 1) := ⟨e1, e5⟩
          have HE3 : Hid (∀ x ∈ lal, 0 ≤ x ∧ x < (g : Int)) := e3
          have HE4 : Hid (∀ x ∈ pal, 0 ≤ x ∧ x < (m : Int)) := e4
          have HJ : Hid (InnerL wr (CL (.slice laa lal.length lac) (.slice paa pal.length pac) lal pal fb m fxs (TL sb (shXs rb rounds src off corr few fully) (.slice (some ⟨tb, 0, none⟩) (k + 1) tc) (.slice (some ⟨pb, 0, none⟩) (k + 1) pc) (.slice fva k fvc) lvs pvs fvs)) lvs LS ∧ InnerL wr (CL (.slice laa lal.length lac) (.slice paa pal.length pac) lal pal fb m fxs (TL sb (shXs rb rounds src off corr few fully) (.slice (some ⟨tb, 0, none⟩) (k + 1) tc) (.slice (some ⟨pb, 0, none⟩) (k + 1) pc) (.slice fva k fvc) lvs pvs fvs)) pvs PS ∧ ReachL lo wr (CL (.slice laa lal.length lac) (.slice paa pal.length pac) lal pal fb m fxs (TL sb (shXs rb rounds src off corr few fully) (.slice (some ⟨tb, 0, none⟩) (k + 1) tc) (.slice (some ⟨pb, 0, none⟩) (k + 1) pc) (.slice fva k fvc) lvs pvs fvs)) rb ps D) := ⟨J1, J2, JR⟩
          have HPl : Hid (pvs.length = k + 1) := by show _ = _; rw [J2.1, ← HOK.out.1, HLl.out]
          have HVl : Hid (lvs.length = k + 1) := by show _ = _; rw [J1.1, HLl.out]
          clear e1 e3 e4 e5 J1 J2 JR HC hfx
          go_upto_region 45 with fail
          have GT := (Goes.refl gX.own gX.size).setAt 2 (e := 21) (g := fb) (n := m + 1) (cap := m + 1) (xs := fxs) rfl (by decide) m (.int .i32 (lal.length : Int))
          obtain ⟨w3, hw3⟩ : ∃ W, W = wr.setCell ⟨fb, m, none⟩ (.int .i32 (lal.length : Int)) := ⟨_, rfl⟩
          obtain ⟨fx2, hfx2⟩ : ∃ l, l = fxs.set m (.int .i32 (lal.length : Int)) := ⟨_, rfl⟩
          have GT' : Goes B wr (CL (.slice laa lal.length lac) (.slice paa pal.length pac) lal pal fb m fxs (TL sb (shXs rb rounds src off corr few fully) (.slice (some ⟨tb, 0, none⟩) (k + 1) tc) (.slice (some ⟨pb, 0, none⟩) (k + 1) pc) (.slice fva k fvc) lvs pvs fvs)) w3 (CL (.slice laa lal.length lac) (.slice paa pal.length pac) lal pal fb m fx2 (TL sb (shXs rb rounds src off corr few fully) (.slice (some ⟨tb, 0, none⟩) (k + 1) tc) (.slice (some ⟨pb, 0, none⟩) (k + 1) pc) (.slice fva k fvc) lvs pvs fvs)) := by rw [hw3, hfx2]; exact GT
          have gY := gX.trans GT'
          have HJ' : Hid (InnerL w3 (CL (.slice laa lal.length lac) (.slice paa pal.length pac) lal pal fb m fx2 (TL sb (shXs rb rounds src off corr few fully) (.slice (some ⟨tb, 0, none⟩) (k + 1) tc) (.slice (some ⟨pb, 0, none⟩) (k + 1) pc) (.slice fva k fvc) lvs pvs fvs)) lvs LS ∧ InnerL w3 (CL (.slice laa lal.length lac) (.slice paa pal.length pac) lal pal fb m fx2 (TL sb (shXs rb rounds src off corr few fully) (.slice (some ⟨tb, 0, none⟩) (k + 1) tc) (.slice (some ⟨pb, 0, none⟩) (k + 1) pc) (.slice fva k fvc) lvs pvs fvs)) pvs PS ∧ ReachL lo w3 (CL (.slice laa lal.length lac) (.slice paa pal.length pac) lal pal fb m fx2 (TL sb (shXs rb rounds src off corr few fully) (.slice (some ⟨tb, 0, none⟩) (k + 1) tc) (.slice (some ⟨pb, 0, none⟩) (k + 1) pc) (.slice fva k fvc) lvs pvs fvs)) rb ps D) := ⟨HJ.out.1.goes GT', HJ.out.2.1.goes GT', HJ.out.2.2.goes GT'⟩
          rw [← hw3]
          clear GT GT' hw3 hfx2 HJ gX cf ff
          have q14 := gY.own.box_cell 6 rfl 14 rfl
          have hb1 : fvs.length + 1 ≤ 100000000 := by have := HFl.out; omega
          go_upto_region 46 with (at_builtin; refine wpList_append_rowK _ rfl (.tmp 267) (.tmp 269) 43 43 rfl B 47 i47 (.slice none 0 0) 1 24 Ybaf.underlying43 hi47 hz470 hz471 hz472 rfl (.slice fva k fvc) fvs.length fvs rfl ((gY.rowAt 5 rfl).alloc _) _ 1 [(.slice (some ⟨fb, 0, none⟩) (m + 1) (m + 1))] rfl (Src.ofSlice (P := Ybaf.prog) (size := 1) (w3.alloc (.cells #[(.slice (some ⟨fb, 0, none⟩) (m + 1) (m + 1))] 47)) Ybaf.underlying43 ⟨w3.heap.size, 0, none⟩ 1 1 [(.slice (some ⟨fb, 0, none⟩) (m + 1) (m + 1))] rfl (news_alloc w3 [(.slice (some ⟨fb, 0, none⟩) (m + 1) (m + 1))] 47) (by intro u hu; simp at hu; subst hu; rfl)) (max_ok hb1) (bytes_ok hb1 (by decide)) (by have := gY.size; simp; omega) ?_; intro fv1 w5 h1 h2 h3 h4 h5; have GA := (Goes.refl gY.own gY.size).push 5 rfl rfl h1 h2 (by simpa using h3) (by simpa using h4); obtain ⟨fa1, fc1, hf1⟩ := h1.form; rw [HFl.out] at hf1; subst hf1; have z14 := GA.own.box_cell 6 rfl 14 rfl; have f14 := GA.own.box_frozen 6 rfl 14 (by simp [shXs]); clear h1 h2 h3 h4 h5)
          have GB := GA.setBox 6 rfl (by decide) 14 (by simp [shXs]) (.slice fa1 (k + 1) fc1)
          obtain ⟨w7, hw7⟩ : ∃ W, W = w5.setCell ⟨sb, 14, none⟩ (.slice fa1 (k + 1) fc1) := ⟨_, rfl⟩
          have GB' : Goes B w3 (CL (.slice laa lal.length lac) (.slice paa pal.length pac) lal pal fb m fx2 (TL sb (shXs rb rounds src off corr few fully) (.slice (some ⟨tb, 0, none⟩) (k + 1) tc) (.slice (some ⟨pb, 0, none⟩) (k + 1) pc) (.slice fva k fvc) lvs pvs fvs)) w7 (CL (.slice laa lal.length lac) (.slice paa pal.length pac) lal pal fb m fx2 (TL sb (shXs rb rounds src off corr few fully) (.slice (some ⟨tb, 0, none⟩) (k + 1) tc) (.slice (some ⟨pb, 0, none⟩) (k + 1) pc) (.slice fa1 (k + 1) fc1) lvs pvs (fvs ++ [(.slice (some ⟨fb, 0, none⟩) (m + 1) (m + 1))]))) := by rw [hw7]; exact GB
          have gZ := gY.trans GB'
          have HK : Hid (InnerL w7 (CL (.slice laa lal.length lac) (.slice paa pal.length pac) lal pal fb m fx2 (TL sb (shXs rb rounds src off corr few fully) (.slice (some ⟨tb, 0, none⟩) (k + 1) tc) (.slice (some ⟨pb, 0, none⟩) (k + 1) pc) (.slice fa1 (k + 1) fc1) lvs pvs (fvs ++ [(.slice (some ⟨fb, 0, none⟩) (m + 1) (m + 1))]))) lvs LS ∧ InnerL w7 (CL (.slice laa lal.length lac) (.slice paa pal.length pac) lal pal fb m fx2 (TL sb (shXs rb rounds src off corr few fully) (.slice (some ⟨tb, 0, none⟩) (k + 1) tc) (.slice (some ⟨pb, 0, none⟩) (k + 1) pc) (.slice fa1 (k + 1) fc1) lvs pvs (fvs ++ [(.slice (some ⟨fb, 0, none⟩) (m + 1) (m + 1))]))) pvs PS ∧ ReachL lo w7 (CL (.slice laa lal.length lac) (.slice paa pal.length pac) lal pal fb m fx2 (TL sb (shXs rb rounds src off corr few fully) (.slice (some ⟨tb, 0, none⟩) (k + 1) tc) (.slice (some ⟨pb, 0, none⟩) (k + 1) pc) (.slice fa1 (k + 1) fc1) lvs pvs (fvs ++ [(.slice (some ⟨fb, 0, none⟩) (m + 1) (m + 1))]))) rb ps D) := ⟨HJ'.out.1.goes GB', HJ'.out.2.1.goes GB', HJ'.out.2.2.goes GB'⟩
          rw [← hw7]
          clear GB GB' GA gY HJ' hw7 z14 f14 q14
          refine wp_region_noPanic ?_
          refine wp_region_till (by kernel_rfl) (fun w' => w'.cell? ⟨sb, 12, none⟩ = some (.slice (some ⟨tb, 0, none⟩) (k + 1) tc) ∧ w'.cell? ⟨sb, 13, none⟩ = some (.slice (some ⟨pb, 0, none⟩) (k + 1) pc)) (fun _ => True) [18, 21] 22 rfl ?_
          have G0 := (Goes.refl gZ.own gZ.size).drew
          have s0 : w7.drew.cell? ⟨sb, 12, none⟩ = some (.slice (some ⟨tb, 0, none⟩) (k + 1) tc) ∧ w7.drew.cell? ⟨sb, 13, none⟩ = some (.slice (some ⟨pb, 0, none⟩) (k + 1) pc) := ⟨G0.own.box_cell 6 rfl 12 rfl, G0.own.box_cell 6 rfl 13 rfl⟩
          obtain ⟨w8, hw8⟩ : ∃ W, W = w7.drew := ⟨_, rfl⟩
          rw [← hw8] at G0 s0 ⊢
          clear hw8
          have hb2 : lvs.length + 1 ≤ 100000000 := by have := HVl.out; omega
          have hb3 : pvs.length + 1 ≤ 100000000 := by have := HPl.out; omega
          refine till_take0 0 (some 273) (v := ?vp0) rfl rfl (by kernel_rfl) (by kernel_rfl) (by kernel_rfl) (fun _ _ _ h => h) (Or.inl ⟨by rfl, ?yp0⟩) trivial ?rp0
          case yp0 => intro w' _; go_simp; all_goals with_reducible rfl
          simp only [Act.put, List.setIfInBounds_toArray, List.set_cons_zero, List.set_cons_succ]
          refine till_take0 1 (some 274) (v := ?vp1) rfl rfl (by kernel_rfl) (by kernel_rfl) (by kernel_rfl) (fun _ _ _ h => h) (Or.inl ⟨by rfl, ?yp1⟩) trivial ?rp1
          case yp1 => intro w' _; go_simp; all_goals with_reducible rfl
          simp only [Act.put, List.setIfInBounds_toArray, List.set_cons_zero, List.set_cons_succ]
          refine till_take0 2 (some 275) (v := ?vp2) rfl rfl (by kernel_rfl) (by kernel_rfl) (by kernel_rfl) (fun _ _ _ h => h) (Or.inl ⟨by rfl, ?yp2⟩) trivial ?rp2
          case yp2 => intro w' _; go_simp; all_goals with_reducible rfl
          simp only [Act.put, List.setIfInBounds_toArray, List.set_cons_zero, List.set_cons_succ]
          refine till_take0 3 (some 276) (v := ?vp3) rfl rfl (by kernel_rfl) (by kernel_rfl) (by kernel_rfl) (fun _ _ _ h => h) (Or.inl ⟨by rfl, ?yp3⟩) trivial ?rp3
          case yp3 => intro w' _; go_simp; all_goals with_reducible rfl
          simp only [Act.put, List.setIfInBounds_toArray, List.set_cons_zero, List.set_cons_succ]
          refine till_take0 4 (some 277) (v := ?vp4) rfl rfl (by kernel_rfl) (by kernel_rfl) (by kernel_rfl) (fun _ _ _ h => h) (Or.inl ⟨by rfl, ?yp4⟩) trivial ?rp4
          case yp4 => intro w' _; go_simp; all_goals with_reducible rfl
          simp only [Act.put, List.setIfInBounds_toArray, List.set_cons_zero, List.set_cons_succ]
          refine till_take 5 (some 278) (v := ?vp5) rfl rfl (by kernel_rfl) (by kernel_rfl) (by kernel_rfl) (by kernel_rfl) (fun _ _ _ h => h) (Or.inl ⟨by rfl, ?yp5⟩) s0 ?rp5
          case yp5 => intro w' ⟨t1, t2⟩; go_simp; all_goals with_reducible rfl
          simp only [Act.put, List.setIfInBounds_toArray, List.set_cons_zero, List.set_cons_succ]
          refine till_take0 6 (some 279) (v := ?vp6) rfl rfl (by kernel_rfl) (by kernel_rfl) (by kernel_rfl) (fun _ _ _ h => h) (Or.inl ⟨by rfl, ?yp6⟩) trivial ?rp6
          case yp6 => intro w' _; go_simp; all_goals with_reducible rfl
          simp only [Act.put, List.setIfInBounds_toArray, List.set_cons_zero, List.set_cons_succ]
          refine till_take0 9 (some 282) (v := ?vp9) rfl rfl (by kernel_rfl) (by kernel_rfl) (by kernel_rfl) (fun _ _ _ h => h) (Or.inl ⟨by rfl, ?yp9⟩) trivial ?rp9
          case yp9 => intro w' _; go_simp; all_goals with_reducible rfl
          simp only [Act.put, List.setIfInBounds_toArray, List.set_cons_zero, List.set_cons_succ]
          refine till_take0 10 (some 283) (v := ?vp10) rfl rfl (by kernel_rfl) (by kernel_rfl) (by kernel_rfl) (fun _ _ _ h => h) (Or.inl ⟨by rfl, ?yp10⟩) trivial ?rp10
          case yp10 => intro w' _; go_simp; all_goals with_reducible rfl
          simp only [Act.put, List.setIfInBounds_toArray, List.set_cons_zero, List.set_cons_succ]
          refine till_take0 11 (some 284) (v := ?vp11) rfl rfl (by kernel_rfl) (by kernel_rfl) (by kernel_rfl) (fun _ _ _ h => h) (Or.inl ⟨by rfl, ?yp11⟩) trivial ?rp11
          case yp11 => intro w' _; go_simp; all_goals with_reducible rfl
          simp only [Act.put, List.setIfInBounds_toArray, List.set_cons_zero, List.set_cons_succ]
          refine till_take 12 (some 285) (v := ?vp12) rfl rfl (by kernel_rfl) (by kernel_rfl) (by kernel_rfl) (by kernel_rfl) (fun _ _ _ h => h) (Or.inl ⟨by rfl, ?yp12⟩) s0 ?rp12
          case yp12 => intro w' ⟨t1, t2⟩; go_simp; all_goals with_reducible rfl
          simp only [Act.put, List.setIfInBounds_toArray, List.set_cons_zero, List.set_cons_succ]
          refine till_take0 13 (some 286) (v := ?vp13) rfl rfl (by kernel_rfl) (by kernel_rfl) (by kernel_rfl) (fun _ _ _ h => h) (Or.inl ⟨by rfl, ?yp13⟩) trivial ?rp13
          case yp13 => intro w' _; go_simp; all_goals with_reducible rfl
          simp only [Act.put, List.setIfInBounds_toArray, List.set_cons_zero, List.set_cons_succ]
          refine till_all (rs := [7, 14]) (by kernel_rfl) (by simp) ?_
          intro i hi
          have hi' : i = 7 ∨ i = 14 := by simpa using hi
          clear hi
          rcases hi' with rfl | rfl
          · refine ⟨_, rfl, rfl, fun K hK => ?_⟩
            go_simp
            have H1 := G0.alloc (.cells #[(.slice laa lal.length lac)] 47)
            obtain ⟨lb, hlb⟩ : ∃ x, x = w8.heap.size := ⟨_, rfl⟩
            have Clb1 : CellS (w8.alloc (.cells #[(.slice laa lal.length lac)] 47)) (CL (.slice laa lal.length lac) (.slice paa pal.length pac) lal pal fb m fx2 [rowOf 47 (.slice (some ⟨tb, 0, none⟩) (k + 1) tc) lvs, rowOf 47 (.slice (some ⟨pb, 0, none⟩) (k + 1) pc) pvs, rowOf 47 (.slice fa1 (k + 1) fc1) (fvs ++ [(.slice (some ⟨fb, 0, none⟩) (m + 1) (m + 1))]), box 45 sb ((shXs rb rounds src off corr few fully) (.slice (some ⟨tb, 0, none⟩) (k + 1) tc) (.slice (some ⟨pb, 0, none⟩) (k + 1) pc) (.slice fa1 (k + 1) fc1))]) ⟨lb, 0, none⟩ (.slice laa lal.length lac) := ⟨by rw [hlb]; exact news_alloc w8 [(.slice laa lal.length lac)] 47 0 _ rfl, by rw [hlb]; exact safe_new G0.own 0⟩
            obtain ⟨x1, hx1⟩ : ∃ W, W = w8.alloc (.cells #[(.slice laa lal.length lac)] 47) := ⟨_, rfl⟩
            rw [← hx1] at H1 Clb1
            have s1 := And.intro (H1.own.box_cell 6 rfl 12 rfl) (H1.own.box_cell 6 rfl 13 rfl)
            rw [hx1] at s1
            refine hK _ _ (.inr (fun _ => s1)) id ?_
            rw [← hx1] at s1 ⊢
            rw [← hlb]
            clear hK K hx1 hlb
            (try simp only [Act.put, List.setIfInBounds_toArray, List.set_cons_zero, List.set_cons_succ])
            refine till_all (rs := [8, 14]) (by kernel_rfl) (by simp) ?_
            intro i hi
            have hi' : i = 8 ∨ i = 14 := by simpa using hi
            clear hi
            rcases hi' with rfl | rfl
            · refine ⟨_, rfl, rfl, fun K hK => ?_⟩
              refine wp_append_rowK x1 rfl (.tmp 278) (.tmp 280) 43 43 rfl B 47 i47 (.slice none 0 0) 1 24 Ybaf.underlying43 hi47 hz470 hz471 hz472 rfl (.slice (some ⟨tb, 0, none⟩) (k + 1) tc) lvs.length lvs rfl (H1.rowAt 3 rfl) _ 1 [(.slice laa lal.length lac)] rfl (Src.ofSlice (P := Ybaf.prog) (size := 1) x1 Ybaf.underlying43 ⟨lb, 0, none⟩ 1 1 [(.slice laa lal.length lac)] rfl (one_cell Clb1.1) (by intro u hu; simp at hu; subst hu; rfl)) (max_ok hb2) (bytes_ok hb2 (by decide)) H1.size ?_
              intro v2 x2 h1 h2 h3 h4 h5
              obtain ⟨va2, vc2, hf2⟩ := h1.form
              subst hf2
              obtain ⟨tb2, hg2, -⟩ := h1.addr (by omega)
              subst hg2
              have HH2 := (Goes.refl H1.own H1.size).pushS 3 rfl rfl h1 h2 h3 (by simpa using h4)
              clear h1 h2 h3 h4 h5
              rw [HVl.out] at HH2 ⊢
              have H2 := H1.trans HH2
              have s2 := And.intro (H2.own.box_cell 6 rfl 12 rfl) (H2.own.box_cell 6 rfl 13 rfl)
              refine hK _ _ (.inr (fun _ => s2)) id ?_
              clear hK K
              (try simp only [Act.put, List.setIfInBounds_toArray, List.set_cons_zero, List.set_cons_succ])
              refine till_one (i := 14) (by kernel_rfl) rfl rfl fun K hK => ?_
              go_simp
              have H3 := H2.alloc (.cells #[(.slice paa pal.length pac)] 47)
              obtain ⟨qb, hqb⟩ : ∃ x, x = x2.heap.size := ⟨_, rfl⟩
              have Cqb3 : CellS (x2.alloc (.cells #[(.slice paa pal.length pac)] 47)) (CL (.slice laa lal.length lac) (.slice paa pal.length pac) lal pal fb m fx2 [rowOf 47 (.slice (some ⟨tb2, 0, none⟩) (k + 1 + 1) vc2) (lvs ++ [(.slice laa lal.length lac)]), rowOf 47 (.slice (some ⟨pb, 0, none⟩) (k + 1) pc) pvs, rowOf 47 (.slice fa1 (k + 1) fc1) (fvs ++ [(.slice (some ⟨fb, 0, none⟩) (m + 1) (m + 1))]), box 45 sb ((shXs rb rounds src off corr few fully) (.slice (some ⟨tb, 0, none⟩) (k + 1) tc) (.slice (some ⟨pb, 0, none⟩) (k + 1) pc) (.slice fa1 (k + 1) fc1))]) ⟨qb, 0, none⟩ (.slice paa pal.length pac) := ⟨by rw [hqb]; exact news_alloc x2 [(.slice paa pal.length pac)] 47 0 _ rfl, by rw [hqb]; exact safe_new H2.own 0⟩
              obtain ⟨x3, hx3⟩ : ∃ W, W = x2.alloc (.cells #[(.slice paa pal.length pac)] 47) := ⟨_, rfl⟩
              rw [← hx3] at H3 Cqb3
              have s3 := And.intro (H3.own.box_cell 6 rfl 12 rfl) (H3.own.box_cell 6 rfl 13 rfl)
              rw [hx3] at s3
              refine hK _ _ (.inr (fun _ => s3)) id ?_
              rw [← hx3] at s3 ⊢
              rw [← hqb]
              clear hK K hx3 hqb
              (try simp only [Act.put, List.setIfInBounds_toArray, List.set_cons_zero, List.set_cons_succ])
              refine till_one (i := 15) (by kernel_rfl) rfl rfl fun K hK => ?_
              refine wp_append_rowK x3 rfl (.tmp 285) (.tmp 287) 43 43 rfl B 47 i47 (.slice none 0 0) 1 24 Ybaf.underlying43 hi47 hz470 hz471 hz472 rfl (.slice (some ⟨pb, 0, none⟩) (k + 1) pc) pvs.length pvs rfl (H3.rowAt 4 rfl) _ 1 [(.slice paa pal.length pac)] rfl (Src.ofSlice (P := Ybaf.prog) (size := 1) x3 Ybaf.underlying43 ⟨qb, 0, none⟩ 1 1 [(.slice paa pal.length pac)] rfl (one_cell Cqb3.1) (by intro u hu; simp at hu; subst hu; rfl)) (max_ok hb3) (bytes_ok hb3 (by decide)) H3.size ?_
              intro v4 x4 h1 h2 h3 h4 h5
              obtain ⟨va4, vc4, hf4⟩ := h1.form
              subst hf4
              obtain ⟨pb2, hg4, -⟩ := h1.addr (by omega)
              subst hg4
              have HH4 := (Goes.refl H3.own H3.size).pushS 4 rfl rfl h1 h2 h3 (by simpa using h4)
              clear h1 h2 h3 h4 h5
              rw [HPl.out] at HH4 ⊢
              have H4 := H3.trans HH4
              have s4 := And.intro (H4.own.box_cell 6 rfl 12 rfl) (H4.own.box_cell 6 rfl 13 rfl)
              refine hK _ _ (.inr (fun _ => s4)) id ?_
              clear hK K
              (try simp only [Act.put, List.setIfInBounds_toArray, List.set_cons_zero, List.set_cons_succ])
              refine till_take0 16 (some 289) (v := ?vL116) rfl rfl (by kernel_rfl) (by kernel_rfl) (by kernel_rfl) (fun _ _ _ h => h) (Or.inl ⟨by rfl, ?yL116⟩) trivial ?rL116
              case yL116 => intro w' _; go_simp; all_goals with_reducible rfl
              simp only [Act.put, List.setIfInBounds_toArray, List.set_cons_zero, List.set_cons_succ]
              refine till_take0 17 (some 290) (v := ?vL117) rfl rfl (by kernel_rfl) (by kernel_rfl) (by kernel_rfl) (fun _ _ _ h => h) (Or.inl ⟨by rfl, ?yL117⟩) trivial ?rL117
              case yL117 => intro w' _; go_simp; all_goals with_reducible rfl
              simp only [Act.put, List.setIfInBounds_toArray, List.set_cons_zero, List.set_cons_succ]
              have z12 := H4.own.box_cell 6 rfl 12 rfl
              have f12 := H4.own.box_frozen 6 rfl 12 (by simp [shXs])
              have GS1 := H4.setBox 6 rfl (by decide) 12 (by simp [shXs]) (.slice (some ⟨tb2, 0, none⟩) (k + 1 + 1) vc2)
              have z13 := GS1.own.box_cell 6 rfl 13 rfl
              have f13 := GS1.own.box_frozen 6 rfl 13 (by simp [shXs])
              have GS2 := GS1.setBox 6 rfl (by decide) 13 (by simp [shXs]) (.slice (some ⟨pb2, 0, none⟩) (k + 1 + 1) vc4)
              refine till_one (i := 18) (by kernel_rfl) rfl rfl fun K hK => ?_
              go_simp
              refine hK _ _ (.inl (by simp)) id ?_
              clear hK K
              (try simp only [Act.put, List.setIfInBounds_toArray, List.set_cons_zero, List.set_cons_succ])
              refine till_take0 19 (some 291) (v := ?vL119) rfl rfl (by kernel_rfl) (by kernel_rfl) (by kernel_rfl) (fun _ _ _ h => h) (Or.inl ⟨by rfl, ?yL119⟩) trivial ?rL119
              case yL119 => intro w' _; go_simp; all_goals with_reducible rfl
              simp only [Act.put, List.setIfInBounds_toArray, List.set_cons_zero, List.set_cons_succ]
              refine till_take0 20 (some 292) (v := ?vL120) rfl rfl (by kernel_rfl) (by kernel_rfl) (by kernel_rfl) (fun _ _ _ h => h) (Or.inl ⟨by rfl, ?yL120⟩) trivial ?rL120
              case yL120 => intro w' _; go_simp; all_goals with_reducible rfl
              simp only [Act.put, List.setIfInBounds_toArray, List.set_cons_zero, List.set_cons_succ]
              refine till_one (i := 21) (by kernel_rfl) rfl rfl fun K hK => ?_
              go_simp
              refine hK _ _ (.inl (by simp)) id ?_
              clear hK K
              refine till_done (by kernel_rfl) ?_ _
              refine NoPanic.normal ?_
              go_wp2_with fail
              go_roundw
              case measure => simp [intOf]; omega
              case rel =>
                refine ⟨k + 1, W2, rfl, by go_num, .inr (by omega), ?_⟩
                exact level_done HLl.out (by simp [HFl.out]) HOK.out HL0.out HP0.out HLB.out (fun _ => HM.out.symm) HE.out.1 e2 HE3.out HE4.out (by push_cast; omega) (gZ.trans GS2) (HK.out.1.goes GS2) (HK.out.2.1.goes GS2) (HK.out.2.2.goes GS2)
            · refine ⟨_, rfl, rfl, fun K hK => ?_⟩
              go_simp
              have H2 := H1.alloc (.cells #[(.slice paa pal.length pac)] 47)
              obtain ⟨qb, hqb⟩ : ∃ x, x = x1.heap.size := ⟨_, rfl⟩
              have Cqb2 : CellS (x1.alloc (.cells #[(.slice paa pal.length pac)] 47)) (CL (.slice laa lal.length lac) (.slice paa pal.length pac) lal pal fb m fx2 [rowOf 47 (.slice (some ⟨tb, 0, none⟩) (k + 1) tc) lvs, rowOf 47 (.slice (some ⟨pb, 0, none⟩) (k + 1) pc) pvs, rowOf 47 (.slice fa1 (k + 1) fc1) (fvs ++ [(.slice (some ⟨fb, 0, none⟩) (m + 1) (m + 1))]), box 45 sb ((shXs rb rounds src off corr few fully) (.slice (some ⟨tb, 0, none⟩) (k + 1) tc) (.slice (some ⟨pb, 0, none⟩) (k + 1) pc) (.slice fa1 (k + 1) fc1))]) ⟨qb, 0, none⟩ (.slice paa pal.length pac) := ⟨by rw [hqb]; exact news_alloc x1 [(.slice paa pal.length pac)] 47 0 _ rfl, by rw [hqb]; exact safe_new H1.own 0⟩
              obtain ⟨x2, hx2⟩ : ∃ W, W = x1.alloc (.cells #[(.slice paa pal.length pac)] 47) := ⟨_, rfl⟩
              rw [← hx2] at H2 Cqb2
              have Clb2 := Clb1.goes ((Goes.refl H1.own H1.size).alloc (.cells #[(.slice paa pal.length pac)] 47))
              rw [← hx2] at Clb2
              have s2 := And.intro (H2.own.box_cell 6 rfl 12 rfl) (H2.own.box_cell 6 rfl 13 rfl)
              rw [hx2] at s2
              refine hK _ _ (.inr (fun _ => s2)) id ?_
              rw [← hx2] at s2 ⊢
              rw [← hqb]
              clear hK K hx2 hqb
              (try simp only [Act.put, List.setIfInBounds_toArray, List.set_cons_zero, List.set_cons_succ])
              refine till_one (i := 8) (by kernel_rfl) rfl rfl fun K hK => ?_
              refine wp_append_rowK x2 rfl (.tmp 278) (.tmp 280) 43 43 rfl B 47 i47 (.slice none 0 0) 1 24 Ybaf.underlying43 hi47 hz470 hz471 hz472 rfl (.slice (some ⟨tb, 0, none⟩) (k + 1) tc) lvs.length lvs rfl (H2.rowAt 3 rfl) _ 1 [(.slice laa lal.length lac)] rfl (Src.ofSlice (P := Ybaf.prog) (size := 1) x2 Ybaf.underlying43 ⟨lb, 0, none⟩ 1 1 [(.slice laa lal.length lac)] rfl (one_cell Clb2.1) (by intro u hu; simp at hu; subst hu; rfl)) (max_ok hb2) (bytes_ok hb2 (by decide)) H2.size ?_
              intro v3 x3 h1 h2 h3 h4 h5
              obtain ⟨va3, vc3, hf3⟩ := h1.form
              subst hf3
              obtain ⟨tb2, hg3, -⟩ := h1.addr (by omega)
              subst hg3
              have HH3 := (Goes.refl H2.own H2.size).pushS 3 rfl rfl h1 h2 h3 (by simpa using h4)
              clear h1 h2 h3 h4 h5
              rw [HVl.out] at HH3 ⊢
              have H3 := H2.trans HH3
              have Cqb3 := Cqb2.goes HH3
              have s3 := And.intro (H3.own.box_cell 6 rfl 12 rfl) (H3.own.box_cell 6 rfl 13 rfl)
              refine hK _ _ (.inr (fun _ => s3)) id ?_
              clear hK K
              (try simp only [Act.put, List.setIfInBounds_toArray, List.set_cons_zero, List.set_cons_succ])
              refine till_one (i := 15) (by kernel_rfl) rfl rfl fun K hK => ?_
              refine wp_append_rowK x3 rfl (.tmp 285) (.tmp 287) 43 43 rfl B 47 i47 (.slice none 0 0) 1 24 Ybaf.underlying43 hi47 hz470 hz471 hz472 rfl (.slice (some ⟨pb, 0, none⟩) (k + 1) pc) pvs.length pvs rfl (H3.rowAt 4 rfl) _ 1 [(.slice paa pal.length pac)] rfl (Src.ofSlice (P := Ybaf.prog) (size := 1) x3 Ybaf.underlying43 ⟨qb, 0, none⟩ 1 1 [(.slice paa pal.length pac)] rfl (one_cell Cqb3.1) (by intro u hu; simp at hu; subst hu; rfl)) (max_ok hb3) (bytes_ok hb3 (by decide)) H3.size ?_
              intro v4 x4 h1 h2 h3 h4 h5
              obtain ⟨va4, vc4, hf4⟩ := h1.form
              subst hf4
              obtain ⟨pb2, hg4, -⟩ := h1.addr (by omega)
              subst hg4
              have HH4 := (Goes.refl H3.own H3.size).pushS 4 rfl rfl h1 h2 h3 (by simpa using h4)
              clear h1 h2 h3 h4 h5
              rw [HPl.out] at HH4 ⊢
              have H4 := H3.trans HH4
              have s4 := And.intro (H4.own.box_cell 6 rfl 12 rfl) (H4.own.box_cell 6 rfl 13 rfl)
              refine hK _ _ (.inr (fun _ => s4)) id ?_
              clear hK K
              (try simp only [Act.put, List.setIfInBounds_toArray, List.set_cons_zero, List.set_cons_succ])
              refine till_take0 16 (some 289) (v := ?vL216) rfl rfl (by kernel_rfl) (by kernel_rfl) (by kernel_rfl) (fun _ _ _ h => h) (Or.inl ⟨by rfl, ?yL216⟩) trivial ?rL216
              case yL216 => intro w' _; go_simp; all_goals with_reducible rfl
              simp only [Act.put, List.setIfInBounds_toArray, List.set_cons_zero, List.set_cons_succ]
              refine till_take0 17 (some 290) (v := ?vL217) rfl rfl (by kernel_rfl) (by kernel_rfl) (by kernel_rfl) (fun _ _ _ h => h) (Or.inl ⟨by rfl, ?yL217⟩) trivial ?rL217
              case yL217 => intro w' _; go_simp; all_goals with_reducible rfl
              simp only [Act.put, List.setIfInBounds_toArray, List.set_cons_zero, List.set_cons_succ]
              have z12 := H4.own.box_cell 6 rfl 12 rfl
              have f12 := H4.own.box_frozen 6 rfl 12 (by simp [shXs])
              have GS1 := H4.setBox 6 rfl (by decide) 12 (by simp [shXs]) (.slice (some ⟨tb2, 0, none⟩) (k + 1 + 1) vc3)
              have z13 := GS1.own.box_cell 6 rfl 13 rfl
              have f13 := GS1.own.box_frozen 6 rfl 13 (by simp [shXs])
              have GS2 := GS1.setBox 6 rfl (by decide) 13 (by simp [shXs]) (.slice (some ⟨pb2, 0, none⟩) (k + 1 + 1) vc4)
              refine till_one (i := 18) (by kernel_rfl) rfl rfl fun K hK => ?_
              go_simp
              refine hK _ _ (.inl (by simp)) id ?_
              clear hK K
              (try simp only [Act.put, List.setIfInBounds_toArray, List.set_cons_zero, List.set_cons_succ])
              refine till_take0 19 (some 291) (v := ?vL219) rfl rfl (by kernel_rfl) (by kernel_rfl) (by kernel_rfl) (fun _ _ _ h => h) (Or.inl ⟨by rfl, ?yL219⟩) trivial ?rL219
              case yL219 => intro w' _; go_simp; all_goals with_reducible rfl
              simp only [Act.put, List.setIfInBounds_toArray, List.set_cons_zero, List.set_cons_succ]
              refine till_take0 20 (some 292) (v := ?vL220) rfl rfl (by kernel_rfl) (by kernel_rfl) (by kernel_rfl) (fun _ _ _ h => h) (Or.inl ⟨by rfl, ?yL220⟩) trivial ?rL220
              case yL220 => intro w' _; go_simp; all_goals with_reducible rfl
              simp only [Act.put, List.setIfInBounds_toArray, List.set_cons_zero, List.set_cons_succ]
              refine till_one (i := 21) (by kernel_rfl) rfl rfl fun K hK => ?_
              go_simp
              refine hK _ _ (.inl (by simp)) id ?_
              clear hK K
              refine till_done (by kernel_rfl) ?_ _
              refine NoPanic.normal ?_
              go_wp2_with fail
              go_roundw
              case measure => simp [intOf]; omega
              case rel =>
                refine ⟨k + 1, W2, rfl, by go_num, .inr (by omega), ?_⟩
                exact level_done HLl.out (by simp [HFl.out]) HOK.out HL0.out HP0.out HLB.out (fun _ => HM.out.symm) HE.out.1 e2 HE3.out HE4.out (by push_cast; omega) (gZ.trans GS2) (HK.out.1.goes GS2) (HK.out.2.1.goes GS2) (HK.out.2.2.goes GS2)
          · refine ⟨_, rfl, rfl, fun K hK => ?_⟩
            go_simp
            have H1 := G0.alloc (.cells #[(.slice paa pal.length pac)] 47)
            obtain ⟨qb, hqb⟩ : ∃ x, x = w8.heap.size := ⟨_, rfl⟩
            have Cqb1 : CellS (w8.alloc (.cells #[(.slice paa pal.length pac)] 47)) (CL (.slice laa lal.length lac) (.slice paa pal.length pac) lal pal fb m fx2 [rowOf 47 (.slice (some ⟨tb, 0, none⟩) (k + 1) tc) lvs, rowOf 47 (.slice (some ⟨pb, 0, none⟩) (k + 1) pc) pvs, rowOf 47 (.slice fa1 (k + 1) fc1) (fvs ++ [(.slice (some ⟨fb, 0, none⟩) (m + 1) (m + 1))]), box 45 sb ((shXs rb rounds src off corr few fully) (.slice (some ⟨tb, 0, none⟩) (k + 1) tc) (.slice (some ⟨pb, 0, none⟩) (k + 1) pc) (.slice fa1 (k + 1) fc1))]) ⟨qb, 0, none⟩ (.slice paa pal.length pac) := ⟨by rw [hqb]; exact news_alloc w8 [(.slice paa pal.length pac)] 47 0 _ rfl, by rw [hqb]; exact safe_new G0.own 0⟩
            obtain ⟨x1, hx1⟩ : ∃ W, W = w8.alloc (.cells #[(.slice paa pal.length pac)] 47) := ⟨_, rfl⟩
            rw [← hx1] at H1 Cqb1
            have s1 := And.intro (H1.own.box_cell 6 rfl 12 rfl) (H1.own.box_cell 6 rfl 13 rfl)
            rw [hx1] at s1
            refine hK _ _ (.inr (fun _ => s1)) id ?_
            rw [← hx1] at s1 ⊢
            rw [← hqb]
            clear hK K hx1 hqb
            (try simp only [Act.put, List.setIfInBounds_toArray, List.set_cons_zero, List.set_cons_succ])
            refine till_one (i := 7) (by kernel_rfl) rfl rfl fun K hK => ?_
            go_simp
            have H2 := H1.alloc (.cells #[(.slice laa lal.length lac)] 47)
            obtain ⟨lb, hlb⟩ : ∃ x, x = x1.heap.size := ⟨_, rfl⟩
            have Clb2 : CellS (x1.alloc (.cells #[(.slice laa lal.length lac)] 47)) (CL (.slice laa lal.length lac) (.slice paa pal.length pac) lal pal fb m fx2 [rowOf 47 (.slice (some ⟨tb, 0, none⟩) (k + 1) tc) lvs, rowOf 47 (.slice (some ⟨pb, 0, none⟩) (k + 1) pc) pvs, rowOf 47 (.slice fa1 (k + 1) fc1) (fvs ++ [(.slice (some ⟨fb, 0, none⟩) (m + 1) (m + 1))]), box 45 sb ((shXs rb rounds src off corr few fully) (.slice (some ⟨tb, 0, none⟩) (k + 1) tc) (.slice (some ⟨pb, 0, none⟩) (k + 1) pc) (.slice fa1 (k + 1) fc1))]) ⟨lb, 0, none⟩ (.slice laa lal.length lac) := ⟨by rw [hlb]; exact news_alloc x1 [(.slice laa lal.length lac)] 47 0 _ rfl, by rw [hlb]; exact safe_new H1.own 0⟩
            obtain ⟨x2, hx2⟩ : ∃ W, W = x1.alloc (.cells #[(.slice laa lal.length lac)] 47) := ⟨_, rfl⟩
            rw [← hx2] at H2 Clb2
            have Cqb2 := Cqb1.goes ((Goes.refl H1.own H1.size).alloc (.cells #[(.slice laa lal.length lac)] 47))
            rw [← hx2] at Cqb2
            have s2 := And.intro (H2.own.box_cell 6 rfl 12 rfl) (H2.own.box_cell 6 rfl 13 rfl)
            rw [hx2] at s2
            refine hK _ _ (.inr (fun _ => s2)) id ?_
            rw [← hx2] at s2 ⊢
            rw [← hlb]
            clear hK K hx2 hlb
            (try simp only [Act.put, List.setIfInBounds_toArray, List.set_cons_zero, List.set_cons_succ])
            refine till_one (i := 8) (by kernel_rfl) rfl rfl fun K hK => ?_
            refine wp_append_rowK x2 rfl (.tmp 278) (.tmp 280) 43 43 rfl B 47 i47 (.slice none 0 0) 1 24 Ybaf.underlying43 hi47 hz470 hz471 hz472 rfl (.slice (some ⟨tb, 0, none⟩) (k + 1) tc) lvs.length lvs rfl (H2.rowAt 3 rfl) _ 1 [(.slice laa lal.length lac)] rfl (Src.ofSlice (P := Ybaf.prog) (size := 1) x2 Ybaf.underlying43 ⟨lb, 0, none⟩ 1 1 [(.slice laa lal.length lac)] rfl (one_cell Clb2.1) (by intro u hu; simp at hu; subst hu; rfl)) (max_ok hb2) (bytes_ok hb2 (by decide)) H2.size ?_
            intro v3 x3 h1 h2 h3 h4 h5
            obtain ⟨va3, vc3, hf3⟩ := h1.form
            subst hf3
            obtain ⟨tb2, hg3, -⟩ := h1.addr (by omega)
            subst hg3
            have HH3 := (Goes.refl H2.own H2.size).pushS 3 rfl rfl h1 h2 h3 (by simpa using h4)
            clear h1 h2 h3 h4 h5
            rw [HVl.out] at HH3 ⊢
            have H3 := H2.trans HH3
            have Cqb3 := Cqb2.goes HH3
            have s3 := And.intro (H3.own.box_cell 6 rfl 12 rfl) (H3.own.box_cell 6 rfl 13 rfl)
            refine hK _ _ (.inr (fun _ => s3)) id ?_
            clear hK K
            (try simp only [Act.put, List.setIfInBounds_toArray, List.set_cons_zero, List.set_cons_succ])
            refine till_one (i := 15) (by kernel_rfl) rfl rfl fun K hK => ?_
            refine wp_append_rowK x3 rfl (.tmp 285) (.tmp 287) 43 43 rfl B 47 i47 (.slice none 0 0) 1 24 Ybaf.underlying43 hi47 hz470 hz471 hz472 rfl (.slice (some ⟨pb, 0, none⟩) (k + 1) pc) pvs.length pvs rfl (H3.rowAt 4 rfl) _ 1 [(.slice paa pal.length pac)] rfl (Src.ofSlice (P := Ybaf.prog) (size := 1) x3 Ybaf.underlying43 ⟨qb, 0, none⟩ 1 1 [(.slice paa pal.length pac)] rfl (one_cell Cqb3.1) (by intro u hu; simp at hu; subst hu; rfl)) (max_ok hb3) (bytes_ok hb3 (by decide)) H3.size ?_
            intro v4 x4 h1 h2 h3 h4 h5
            obtain ⟨va4, vc4, hf4⟩ := h1.form
            subst hf4
            obtain ⟨pb2, hg4, -⟩ := h1.addr (by omega)
            subst hg4
            have HH4 := (Goes.refl H3.own H3.size).pushS 4 rfl rfl h1 h2 h3 (by simpa using h4)
            clear h1 h2 h3 h4 h5
            rw [HPl.out] at HH4 ⊢
            have H4 := H3.trans HH4
            have s4 := And.intro (H4.own.box_cell 6 rfl 12 rfl) (H4.own.box_cell 6 rfl 13 rfl)
            refine hK _ _ (.inr (fun _ => s4)) id ?_
            clear hK K
            (try simp only [Act.put, List.setIfInBounds_toArray, List.set_cons_zero, List.set_cons_succ])
            refine till_take0 16 (some 289) (v := ?vL316) rfl rfl (by kernel_rfl) (by kernel_rfl) (by kernel_rfl) (fun _ _ _ h => h) (Or.inl ⟨by rfl, ?yL316⟩) trivial ?rL316
            case yL316 => intro w' _; go_simp; all_goals with_reducible rfl
            simp only [Act.put, List.setIfInBounds_toArray, List.set_cons_zero, List.set_cons_succ]
            refine till_take0 17 (some 290) (v := ?vL317) rfl rfl (by kernel_rfl) (by kernel_rfl) (by kernel_rfl) (fun _ _ _ h => h) (Or.inl ⟨by rfl, ?yL317⟩) trivial ?rL317
            case yL317 => intro w' _; go_simp; all_goals with_reducible rfl
            simp only [Act.put, List.setIfInBounds_toArray, List.set_cons_zero, List.set_cons_succ]
            have z12 := H4.own.box_cell 6 rfl 12 rfl
            have f12 := H4.own.box_frozen 6 rfl 12 (by simp [shXs])
            have GS1 := H4.setBox 6 rfl (by decide) 12 (by simp [shXs]) (.slice (some ⟨tb2, 0, none⟩) (k + 1 + 1) vc3)
            have z13 := GS1.own.box_cell 6 rfl 13 rfl
            have f13 := GS1.own.box_frozen 6 rfl 13 (by simp [shXs])
            have GS2 := GS1.setBox 6 rfl (by decide) 13 (by simp [shXs]) (.slice (some ⟨pb2, 0, none⟩) (k + 1 + 1) vc4)
            refine till_one (i := 18) (by kernel_rfl) rfl rfl fun K hK => ?_
            go_simp
            refine hK _ _ (.inl (by simp)) id ?_
            clear hK K
            (try simp only [Act.put, List.setIfInBounds_toArray, List.set_cons_zero, List.set_cons_succ])
            refine till_take0 19 (some 291) (v := ?vL319) rfl rfl (by kernel_rfl) (by kernel_rfl) (by kernel_rfl) (fun _ _ _ h => h) (Or.inl ⟨by rfl, ?yL319⟩) trivial ?rL319
            case yL319 => intro w' _; go_simp; all_goals with_reducible rfl
            simp only [Act.put, List.setIfInBounds_toArray, List.set_cons_zero, List.set_cons_succ]
            refine till_take0 20 (some 292) (v := ?vL320) rfl rfl (by kernel_rfl) (by kernel_rfl) (by kernel_rfl) (fun _ _ _ h => h) (Or.inl ⟨by rfl, ?yL320⟩) trivial ?rL320
            case yL320 => intro w' _; go_simp; all_goals with_reducible rfl
            simp only [Act.put, List.setIfInBounds_toArray, List.set_cons_zero, List.set_cons_succ]
            refine till_one (i := 21) (by kernel_rfl) rfl rfl fun K hK => ?_
            go_simp
            refine hK _ _ (.inl (by simp)) id ?_
            clear hK K
            refine till_done (by kernel_rfl) ?_ _
            refine NoPanic.normal ?_
            go_wp2_with fail
            go_roundw
            case measure => simp [intOf]; omega
            case rel =>
              refine ⟨k + 1, W2, rfl, by go_num, .inr (by omega), ?_⟩
              exact level_done HLl.out (by simp [HFl.out]) HOK.out HL0.out HP0.out HLB.out (fun _ => HM.out.symm) HE.out.1 e2 HE3.out HE4.out (by push_cast; omega) (gZ.trans GS2) (HK.out.1.goes GS2) (HK.out.2.1.goes GS2) (HK.out.2.2.goes GS2)
    · have hki : decide ((k : Int) < lev - 1) = false := decide_eq_false hlt
      go_wp2_with fail
      go_ret2
      exact ⟨rfl, k, W', hkl, by omega, HC.out⟩

end Go.Proofs.YbulkaxksFmt
