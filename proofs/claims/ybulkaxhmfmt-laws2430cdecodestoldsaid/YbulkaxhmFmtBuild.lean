/-
  The walk of zzs2430cbuild.
-/
import Derived.Test.YbulkaxhmFmtBuildKit
import Derived.Deep.RegionWith
set_option linter.unusedVariables false
set_option linter.unusedSimpArgs false
namespace Go.Proofs.YbulkaxhmFmt
open Go.RowKit

def LF (mv : Value) (M : List UInt8) (nv tv cv ov dv : Value) (nvs tvs cvs ovs dvs : List Value) (wb rb : Nat) : List RowS :=
  [rowOf 23 dv dvs, rowOf 59 ov ovs, rowOf 59 cv cvs, rowOf 59 tv tvs, rowOf 28 nv nvs, rowOf 5 mv (bvs M), box 42 wb [nv, tv, cv, ov, dv], box 42 rb [nv, tv, cv, ov, dv]]

theorem results_built {tmps : Array Value} {W : World} {g : Nat} {mv : Value} {a0 a1 a2 a3 a4 : Option Addr} {n0 n1 n2 n3 n4 c0 c1 c2 c3 c4 : Nat} (h10 : tmps.getD 10 undef = mv) (h11 : tmps.getD 11 undef = .pointer (some ⟨g, 0, none⟩))
    (m0 : W.cell? ⟨g, 0, none⟩ = some (.slice a0 n0 c0)) (m1 : W.cell? ⟨g, 1, none⟩ = some (.slice a1 n1 c1)) (m2 : W.cell? ⟨g, 2, none⟩ = some (.slice a2 n2 c2)) (m3 : W.cell? ⟨g, 3, none⟩ = some (.slice a3 n3 c3)) (m4 : W.cell? ⟨g, 4, none⟩ = some (.slice a4 n4 c4)) :
    (results Ybaf.f11 tmps).run Ybaf.prog W = .ok (.tuple #[mv, .agg #[.slice a0 n0 c0, .slice a1 n1 c1, .slice a2 n2 c2, .slice a3 n3 c3, .slice a4 n4 c4]]) W := by
  simp only [Array.getD_eq_getD_getElem?] at h10 h11
  unfold results
  rw [Ybaf.results11]
  simp [h10, h11, asAddr, go_sem, m0, m1, m2, m3, m4]

/-- The message that zzs2430cbuild makes. -/
def msgB (fl : UInt8) (qs : List QV) (ots : List Int) (nopt : Nat) (ops : List OV) : List UInt8 :=
  hdr fl qs.length ots.length nopt ++ encQs (qs.map mqV) ++ encRs (ots.map fun z => orec z.toNat) ++ encRs (optsR (encOpts (ops.map oP)) nopt)

/-- What zzs2430cbuild leaves. -/
def Built (fl : UInt8) (qs : List QV) (ots : List Int) (nopt : Nat) (ops : List OV) (w : World) (e : Ending) (w' : World) : Prop :=
  ∃ (mv nv tv cv ov dv : Value) (M : List UInt8) (nvs CO DA : List Value), e = .returned (.tuple #[mv, .agg #[nv, tv, cv, ov, dv]]) ∧ Hid (M = msgB fl qs ots nopt ops) ∧ M.length ≤ 200000 ∧ nvs.length = qs.length ∧
    Hid ((nopt = 0 → CO = [] ∧ DA = [] ∧ ov = .slice none 0 0 ∧ dv = .slice none 0 0) ∧ (0 < nopt → CO = ops.map codeV ∧ DA = ops.map dataV)) ∧
    Goes w.heap.size w [] w' (LF mv M nv tv cv ov dv nvs (qs.map tyV) (qs.map clV) CO DA (w.heap.size + 1) w.heap.size) ∧
    Hid (∀ j (hj : j < nvs.length) (hj2 : j < qs.length), StrAt w' (LF mv M nv tv cv ov dv nvs (qs.map tyV) (qs.map clV) CO DA (w.heap.size + 1) w.heap.size) nvs[j] (cutL 1 (labsOf qs[j])))

set_option maxHeartbeats 4000000 in
set_option maxRecDepth 100000 in
theorem build_any (fl : UInt8) (qao : Option Addr) (qs : List QV) (qcap : Nat) (oao : Option Addr) (ots : List Int) (ocap : Nat) (nopt : Nat) (pao : Option Addr) (ops : List OV) (pcap : Nat) (w : World)
    (hq : Hid (QsAt w qao qs)) (ho : Hid (IntsAt w .u16 oao ots)) (hoz : Hid (∀ z ∈ ots, 0 ≤ z ∧ z ≤ 65535)) (hp : Hid (OsAt w pao ops)) (hs : Small qs ots.length ops.length) (hn : nopt ≤ 2) :
    Calls Ybaf.prog 11 #[.int .u8 (fl.toNat : Int), .slice qao qs.length qcap, .slice oao ots.length ocap, .int .i64 nopt, .slice pao ops.length pcap] w (Built fl qs ots nopt ops w) := by
  obtain ⟨s1, s2, s3, s4⟩ := hs
  have S4 : Hid (∀ j (hj : j < qs.length), qs[j].labels.length ≤ 256) := s4
  clear s4
  obtain ⟨i5, hi5, hz50, hz51, hz52⟩ := info_parts Ybaf.info5
  obtain ⟨i9, hi9, hz90, hz91, hz92⟩ := info_parts Ybaf.info9
  obtain ⟨i59, hi59, hz590, hz591, hz592⟩ := info_parts Ybaf.info59
  obtain ⟨i28, hi28, hz280, hz281, hz282⟩ := info_parts Ybaf.info28
  obtain ⟨i23, hi23, hz230, hz231, hz232⟩ := info_parts Ybaf.info23c
  have hmk : ∀ w, (Instr.makeSlice 23 (.int .i64 12) (.int .i64 12)).run Ybaf.prog w = .ok (.slice (some ⟨w.heap.size, 0, none⟩) 12 12) (w.alloc (.cells #[.int .u8 0, .int .u8 0, .int .u8 0, .int .u8 0, .int .u8 0, .int .u8 0, .int .u8 0, .int .u8 0, .int .u8 0, .int .u8 0, .int .u8 0, .int .u8 0] 5)) := fun _ => by kernel_rfl
  have hw1 : IntKind.u16.wrap (qs.length : Int) = qs.length := by rw [IntKind.wrap_u16]; omega
  have hw2 : IntKind.u16.wrap (ots.length : Int) = ots.length := by rw [IntKind.wrap_u16]; omega
  have hw3 : IntKind.u16.wrap (nopt : Int) = nopt := by rw [IntKind.wrap_u16]; omega
  have hG : Goes w.heap.size w [] (((w.alloc (.cells nil5.toArray 42)).alloc (.cells nil5.toArray 42)).alloc (.cells #[.int .u8 18, .int .u8 52, .int .u8 (fl.toNat : Int), .int .u8 0, .int .u8 0, .int .u8 0, .int .u8 0, .int .u8 0, .int .u8 0, .int .u8 0, .int .u8 0, .int .u8 0] 5))
      [rowOf 5 (.slice (some ⟨w.heap.size + 1 + 1, 0, none⟩) 12 12) [.int .u8 18, .int .u8 52, .int .u8 (fl.toNat : Int), .int .u8 0, .int .u8 0, .int .u8 0, .int .u8 0, .int .u8 0, .int .u8 0, .int .u8 0, .int .u8 0, .int .u8 0], box 42 (w.heap.size + 1) nil5, box 42 w.heap.size nil5] := by
    have g0 := Goes.refl (Own.nil w w.heap.size) (Nat.le_refl _)
    have g1 := g0.cons (box_new w w.heap.size 42 nil5 (Nat.le_refl _)) (World.grownBy_alloc _ _ none) (fun k hk => by simp [box, Value.ownBlock] at hk; omega)
    have g2 := g1.cons (box_new _ w.heap.size 42 nil5 (by simp)) (World.grownBy_alloc _ _ none) (fun k hk => by simp [box, Value.ownBlock] at hk; simp; omega)
    have g3 := g2.cons (r := rowOf 5 (.slice (some ⟨w.heap.size + 1 + 1, 0, none⟩) 12 12) [.int .u8 18, .int .u8 52, .int .u8 (fl.toNat : Int), .int .u8 0, .int .u8 0, .int .u8 0, .int .u8 0, .int .u8 0, .int .u8 0, .int .u8 0, .int .u8 0, .int .u8 0])
      (by unfold RowS.at rowOf; simpa using RowM.of_owns (World.ownsRow_lit (base := w.heap.size) (e := 5) (size := 1) ((w.alloc (.cells nil5.toArray 42)).alloc (.cells nil5.toArray 42)) #[.int .u8 18, .int .u8 52, .int .u8 (fl.toNat : Int), .int .u8 0, .int .u8 0, .int .u8 0, .int .u8 0, .int .u8 0, .int .u8 0, .int .u8 0, .int .u8 0, .int .u8 0] 12 (by simp; omega) (by decide) rfl)) (World.grownBy_alloc _ _ none) (fun k hk => by simp [rowOf, Value.ownBlock] at hk; simp; omega)
    simpa using g3
  go_enter Ybaf.func11, Ybaf.ntmps11
  go_wp2_with fail
  have hG1 := hG.drew
  clear hG
  go_region_with (go_at_call 17; refine (putU16_any (w.heap.size + 1 + 1) 4 8 8 _ _ _ _ (by decide) (by decide) (hG1.cellAt 0 rfl 4 rfl).1 (hG1.cellAt 0 rfl 5 rfl).1 (hG1.cellAt 0 rfl 4 rfl).2 (hG1.cellAt 0 rfl 5 rfl).2 (by omega) (by omega)).mono ?_; rintro e wa1 ⟨rfl, hwa1⟩)
  have hH1 : Goes w.heap.size w [] wa1 [rowOf 5 (.slice (some ⟨w.heap.size + 1 + 1, 0, none⟩) 12 12) [.int .u8 18, .int .u8 52, .int .u8 (fl.toNat : Int), .int .u8 0, .int .u8 ((qs.length : Int) / 256), .int .u8 ((qs.length : Int) % 256), .int .u8 0, .int .u8 0, .int .u8 0, .int .u8 0, .int .u8 0, .int .u8 0], box 42 (w.heap.size + 1) nil5, box 42 w.heap.size nil5] := by
    have := ((hG1.alloc (.cells #[] 63)).setAt 0 rfl (by decide) 4 (.int .u8 ((qs.length : Int) / 256))).setAt 0 rfl (by decide) 5 (.int .u8 ((qs.length : Int) % 256))
    rw [hwa1] at this
    exact this
  clear hwa1 hG1
  go_wp2_with fail
  have hG2 := hH1.drew
  clear hH1
  go_region_with (go_at_call 17; refine (putU16_any (w.heap.size + 1 + 1) 6 6 6 _ _ _ _ (by decide) (by decide) (hG2.cellAt 0 rfl 6 rfl).1 (hG2.cellAt 0 rfl 7 rfl).1 (hG2.cellAt 0 rfl 6 rfl).2 (hG2.cellAt 0 rfl 7 rfl).2 (by omega) (by omega)).mono ?_; rintro e wa2 ⟨rfl, hwa2⟩)
  have hH2 : Goes w.heap.size w [] wa2 [rowOf 5 (.slice (some ⟨w.heap.size + 1 + 1, 0, none⟩) 12 12) [.int .u8 18, .int .u8 52, .int .u8 (fl.toNat : Int), .int .u8 0, .int .u8 ((qs.length : Int) / 256), .int .u8 ((qs.length : Int) % 256), .int .u8 ((ots.length : Int) / 256), .int .u8 ((ots.length : Int) % 256), .int .u8 0, .int .u8 0, .int .u8 0, .int .u8 0], box 42 (w.heap.size + 1) nil5, box 42 w.heap.size nil5] := by
    have := ((hG2.alloc (.cells #[] 63)).setAt 0 rfl (by decide) 6 (.int .u8 ((ots.length : Int) / 256))).setAt 0 rfl (by decide) 7 (.int .u8 ((ots.length : Int) % 256))
    rw [hwa2] at this
    exact this
  clear hwa2 hG2
  go_wp2_with fail
  have hG3 := hH2.drew
  clear hH2
  go_region_with (go_at_call 17; refine (putU16_any (w.heap.size + 1 + 1) 10 2 2 _ _ _ _ (by decide) (by decide) (hG3.cellAt 0 rfl 10 rfl).1 (hG3.cellAt 0 rfl 11 rfl).1 (hG3.cellAt 0 rfl 10 rfl).2 (hG3.cellAt 0 rfl 11 rfl).2 (by omega) (by omega)).mono ?_; rintro e wa3 ⟨rfl, hwa3⟩)
  have hH3 : Goes w.heap.size w [] wa3 [rowOf 5 (.slice (some ⟨w.heap.size + 1 + 1, 0, none⟩) 12 12) [.int .u8 18, .int .u8 52, .int .u8 (fl.toNat : Int), .int .u8 0, .int .u8 ((qs.length : Int) / 256), .int .u8 ((qs.length : Int) % 256), .int .u8 ((ots.length : Int) / 256), .int .u8 ((ots.length : Int) % 256), .int .u8 0, .int .u8 0, .int .u8 ((nopt : Int) / 256), .int .u8 ((nopt : Int) % 256)], box 42 (w.heap.size + 1) nil5, box 42 w.heap.size nil5] := by
    have := ((hG3.alloc (.cells #[] 63)).setAt 0 rfl (by decide) 10 (.int .u8 ((nopt : Int) / 256))).setAt 0 rfl (by decide) 11 (.int .u8 ((nopt : Int) % 256))
    rw [hwa3] at this
    exact this
  clear hwa3 hG3
  have hL : Goes w.heap.size w [] wa3 (LB (.slice (some ⟨w.heap.size + 1 + 1, 0, none⟩) 12 12) (hdr fl qs.length ots.length nopt) (.slice none 0 0) (.slice none 0 0) (.slice none 0 0) (.slice none 0 0) (.slice none 0 0) [] [] [] [] [] (w.heap.size + 1) w.heap.size) := by
    have := ((((hH3.nilRow 28).nilRow 59).nilRow 59).nilRow 59).nilRow 23
    have e : bvs (hdr fl qs.length ots.length nopt) = [.int .u8 18, .int .u8 52, .int .u8 (fl.toNat : Int), .int .u8 0, .int .u8 ((qs.length : Int) / 256), .int .u8 ((qs.length : Int) % 256), .int .u8 ((ots.length : Int) / 256), .int .u8 ((ots.length : Int) % 256), .int .u8 0, .int .u8 0, .int .u8 ((nopt : Int) / 256), .int .u8 ((nopt : Int) % 256)] := by
      simp [hdr, be16, bvs, bv]
      omega
    unfold LB
    rw [e]
    exact this
  clear hH3
  go_wp2_with fail
  go_loopw [13, 57] (fun mv i wr => QRel w fl ots.length nopt qs mv i wr) (fun _ i _ => qs.length - (intOf i).toNat)
  case atStart =>
    exact ⟨0, _, _, _, hdr fl qs.length ots.length nopt, [], by omega, rfl, by simp [hdr_length], rfl, by simp [Hid, encQs], by simpa using hL, fun j hj => absurd hj (Nat.not_lt_zero _)⟩
  case round =>
    obtain ⟨k, nv, tv, cv, M, nvs, hk, rfl, hMl, hnl, HM, hG, HN⟩ := hrel
    obtain ⟨TY, hTY⟩ : ∃ TY, TY = (qs.take k).map tyV := ⟨_, rfl⟩
    obtain ⟨CL, hCL⟩ : ∃ CL, CL = (qs.take k).map clV := ⟨_, rfl⟩
    rw [← hTY, ← hCL] at hG HN
    have hTYl : TY.length ≤ k := by rw [hTY]; simp; omega
    have hCLl : CL.length ≤ k := by rw [hCL]; simp; omega
    have HTY : Hid (TY = (qs.take k).map tyV) := hTY
    have HCL : Hid (CL = (qs.take k).map clV) := hCL
    clear hTY hCL
    have HNL : Hid (nvs.length = k) := hnl
    have hnl2 : nvs.length ≤ k := by omega
    clear hnl
    by_cases hlt : k < qs.length
    · obtain ⟨b, off, hao, hb, c1, c2, c3, c4, c5, c6, c7, c8, c9⟩ := hq.out.later hG.below k hlt
      subst hao
      obtain ⟨q, hqk⟩ : ∃ q, q = qs[k] := ⟨_, rfl⟩
      rw [← hqk] at c1 c2 c3 c4 c5 c6 c7 c8 c9
      have HQ : Hid (q = qs[k]) := hqk
      have hl256 := S4.out k hlt
      rw [← hqk] at hl256
      have HS : Hid (BArrsAt w q.lao q.labels) := by
        obtain ⟨_, _, _, _, _, _, _, d4, _⟩ := hq.out k hlt
        rw [← hqk] at d4; exact d4
      clear hqk c4 c5
      have g1 := (Goes.refl hG.own hG.size).cons (box_new wr w.heap.size 61 [.slice q.lao q.labels.length q.lcap, .int .u16 q.ty, .int .u16 q.cl] hG.size) (World.grownBy_alloc _ _ none) (fun k hk => by simp [box, Value.ownBlock] at hk; omega)
      have g2 := g1.cons (r := rowOf 9 (.slice (some ⟨wr.heap.size + 1, 0, none⟩) 0 0) []) (by unfold RowS.at rowOf; simpa using RowM.of_owns (World.ownsRow_lit (base := w.heap.size) (e := 9) (size := 1) (wr.alloc (.cells #[.slice q.lao q.labels.length q.lcap, .int .u16 q.ty, .int .u16 q.cl] 61)) #[] 0 (by have := hG.size; simp; omega) (by decide) rfl)) (World.grownBy_alloc _ _ none) (fun k hk => by simp [rowOf, Value.ownBlock] at hk; simp; omega)
      have hszw := hG.size
      go_wp2_with fail
      obtain ⟨wo, rfl⟩ : ∃ x : World, x = wr := ⟨_, rfl⟩
      obtain ⟨mv0, rfl⟩ : ∃ x : Value, x = u13 := ⟨_, rfl⟩
      generalize hwq : ((wo.alloc (.cells #[.slice q.lao q.labels.length q.lcap, .int .u16 q.ty, .int .u16 q.cl] 61)).alloc (.cells #[] 9)) = wq at g2 ⊢
      have hszq : wo.heap.size + 1 < wq.heap.size := by rw [← hwq]; simp
      clear hwq g1
      obtain ⟨tl, htl⟩ : ∃ tl : Value → List UInt8 → List RowS, tl = fun mv M' => box 61 wo.heap.size [.slice q.lao q.labels.length q.lcap, .int .u16 q.ty, .int .u16 q.cl] :: LB mv M' nv tv cv (.slice none 0 0) (.slice none 0 0) nvs TY CL [] [] (w.heap.size + 1) w.heap.size := ⟨_, rfl⟩
      obtain ⟨Lo, hLo⟩ : ∃ Lo, Lo = LB mv0 M nv tv cv (.slice none 0 0) (.slice none 0 0) nvs TY CL [] [] (w.heap.size + 1) w.heap.size := ⟨_, rfl⟩
      have gS : Goes w.heap.size wo Lo wq (rowOf 9 (.slice (some ⟨wo.heap.size + 1, 0, none⟩) 0 0) (svs []) :: tl mv0 M) := by rw [htl, hLo]; exact g2
      have gO : Goes w.heap.size w [] wo Lo := by rw [hLo]; exact hG
      have hwb : w.heap.size + 1 < wo.heap.size := (RowM.lt (hG.own.rows 6 (by simp [LB])) _ rfl).2
      have ht : Tl 6 tl := by rw [htl]; exact ⟨fun mv M => rfl, fun mv M mv' M' => rfl⟩
      have Htb : Hid (∀ mv M, (tl mv M)[0]? = some (box 61 wo.heap.size [.slice q.lao q.labels.length q.lcap, .int .u16 q.ty, .int .u16 q.cl])) := by rw [htl]; exact fun mv M => rfl
      have Htl : Hid (tl = fun mv M' => box 61 wo.heap.size [.slice q.lao q.labels.length q.lcap, .int .u16 q.ty, .int .u16 q.cl] :: LB mv M' nv tv cv (.slice none 0 0) (.slice none 0 0) nvs TY CL [] [] (w.heap.size + 1) w.heap.size) := htl
      have HN' : Hid (∀ j (hj : j < nvs.length) (hj2 : j < qs.length), StrAt wo Lo nvs[j] (cutL 1 (labsOf qs[j]))) := by rw [hLo]; exact HN.out
      clear htl g2 hLo hG HN
      go_loopw [13, 16, 17, 65] (fun mv wlv lsv iv wr => LRel w.heap.size wo Lo (labsOf q) M tl mv wlv lsv iv wr) (fun _ _ _ iv _ => q.labels.length - (intOf iv).toNat)
      case atStart => exact ⟨0, 1, [], M, by omega, rfl, rfl, by omega, Nat.le_refl _, by omega, ⟨rfl, rfl, by simp [encLs]⟩, gS⟩
      case round =>
        obtain ⟨i, wl, dn, Mi, hi, rfl, rfl, hwl, hdl, hMil, HD', hGi⟩ := hrel
        have hll : (labsOf q).length = q.labels.length := by simp [labsOf]
        rw [hll] at hi
        by_cases hgo0 : i < q.labels.length ∧ wl + 1 + (fixL ((labsOf q).getD i [])).length ≤ 255
        · obtain ⟨hil0, hgo1⟩ := hgo0
          have hil : i < (labsOf q).length := by omega
          obtain ⟨lb, lo, hlao, hlb, hlc, hlm⟩ := HS.out.later (gO.below.trans hGi.below) i hil0
          rw [hlao] at *
          obtain ⟨S, hS⟩ : ∃ S, S = q.labels[i] := ⟨_, rfl⟩
          rw [← hS] at hlc hlm
          have hSl : S.data.toList = (labsOf q)[i] := by rw [hS]; simp [labsOf]
          have HL : Hid (S.data.toList = (labsOf q)[i]) := hSl
          have egd : (labsOf q).getD i [] = S.data.toList := by rw [hSl]; simp [List.getD_eq_getElem?_getD, List.getElem?_eq_getElem hil]
          rw [egd] at hgo1
          have hgo : wl + 1 + (fixL (labsOf q)[i]).length ≤ 255 := by rw [← hSl]; exact hgo1
          have X : Hid _ := lbl_step hil hgo HD'.out
          unfold maxLen at hlm
          clear hS hSl egd hgo
          rcases (show S.size = 0 ∨ (0 < S.size ∧ S.size ≤ 63) ∨ 63 < S.size from by omega) with hz | ⟨hz, hz2⟩ | hz
          · have t1 : ((S.size : Int) == 0) = true := beq_iff_eq.2 (by omega)
            have hfx : fixL S.data.toList = (⟨#[97]⟩ : ByteArray).data.toList := by rw [fix_zero hz]
            have hsz1 : (⟨#[97]⟩ : ByteArray).size = 1 := rfl
            have e0 : fixL (labsOf q)[i] = (⟨#[97]⟩ : ByteArray).data.toList := by rw [← HL.out]; exact hfx
            have HX : Hid ([Value.int .u8 (1 : Int)] = bvs [UInt8.ofNat (fixL (labsOf q)[i]).length]) := by
              rw [e0, len_data, hsz1]; simp [Hid, bvs, bv]; try omega
            have HK : Hid (byteCells ⟨#[97]⟩ = bvs (fixL (labsOf q)[i])) := by rw [e0]; rfl
            have HS2 : Hid (svs dn ++ [Value.string ⟨#[97]⟩] = svs (dn ++ [fixL (labsOf q)[i]])) := lbl_strs e0
            have hfs : 1 ≤ 63 := by have := fixL_le S.data.toList; rw [hfx, len_data, hsz1] at this; exact this
            have hgo2 : wl + 1 + 1 ≤ 255 := by rw [hfx, len_data, hsz1] at hgo1; exact hgo1
            have HL63 : Hid ((fixL (labsOf q)[i]).length = 1) := by rw [e0, len_data, hsz1]; rfl
            have hb1 : (bvs Mi).length + 1 ≤ 100000000 := by rw [bvs_length]; omega
            clear hfx e0 hgo1 hsz1
            go_wp2_with (at_builtin; refine wpList_append_rowK _ rfl (.tmp 88) (.tmp 92) 23 23 rfl w.heap.size 5 i5 (.int .u8 0) 1 1 Ybaf.underlying23 hi5 hz50 hz51 hz52 rfl _ _ _ rfl ((hGi.msgAt ht).alloc _) _ 1 [.int .u8 1] rfl (Src.ofSlice _ Ybaf.underlying23 ⟨wr.heap.size, 0, none⟩ 1 1 [.int .u8 1] rfl (news_alloc wr [.int .u8 1] 5) (ints_one [_])) (max_ok hb1) (bytes_ok hb1 (by decide)) (by have := hGi.size; simp; omega) ?_)
            intro mv1 w1 h11 h12 h13 h14 h15
            have gA := hGi.msg ht HX.out rfl h11 h12 h13 (by simpa using h14)
            have hb2 : (bvs (Mi ++ [UInt8.ofNat (fixL (labsOf q)[i]).length])).length + 1 ≤ 100000000 := by rw [bvs_length]; simp; omega
            generalize hM1 : Mi ++ [UInt8.ofNat (fixL (labsOf q)[i]).length] = M1 at gA hb2
            have HM1 : Hid (M1 = Mi ++ [UInt8.ofNat (fixL (labsOf q)[i]).length]) := hM1.symm
            clear h11 h12 h13 h14 h15 hM1 hGi
            go_wp2_with (at_builtin; refine wpList_append_rowK _ rfl (.tmp 94) (.tmp 95) 23 9 rfl w.heap.size 5 i5 (.int .u8 0) 1 1 Ybaf.underlying23 hi5 hz50 hz51 hz52 rfl _ _ _ rfl (gA.msgAt ht) _ 1 (byteCells ⟨#[97]⟩) rfl (Src.ofString w1 Ybaf.underlying9 ⟨#[97]⟩) (max_ok hb2) (bytes_ok hb2 (by decide)) gA.size ?_)
            intro mv2 w2 h21 h22 h23 h24 h25
            have gB := gA.msgS ht (K := fixL (labsOf q)[i]) HK.out HL63.out h21 h22 h23 (by simpa using h24)
            generalize hM2 : M1 ++ fixL (labsOf q)[i] = M2 at gB
            have HM2 : Hid (M2 = M1 ++ fixL (labsOf q)[i]) := hM2.symm
            have hb3 : (svs dn).length + 1 ≤ 100000000 := by simp [svs]; omega
            clear h21 h22 h23 h24 h25 hM2 gA
            go_wp2_with (at_builtin; refine wpList_append_rowK _ rfl (.tmp 97) (.tmp 99) 28 28 rfl w.heap.size 9 i9 (.string ⟨#[]⟩) 1 16 Ybaf.underlying28 hi9 hz90 hz91 hz92 rfl _ _ _ rfl ((gB.rowAt 0 rfl).alloc _) _ 1 [.string ⟨#[97]⟩] rfl (Src.ofSlice _ Ybaf.underlying28 ⟨w2.heap.size, 0, none⟩ 1 1 [.string ⟨#[97]⟩] rfl (news_alloc w2 [.string ⟨#[97]⟩] 9) (by intro u hu; simp at hu; subst hu; rfl)) (max_ok hb3) (bytes_ok hb3 (by decide)) (by have := gB.size; simp; omega) ?_)
            intro ls1 w3 h31 h32 h33 h34 h35
            have gC := gB.push 0 rfl rfl h31 h32 h33 (by simpa using h34)
            clear h31 h32 h33 h34 h35
            have gD : Goes w.heap.size wo Lo w3 (rowOf 9 ls1 (svs (dn ++ [fixL (labsOf q)[i]])) :: tl mv2 M2) := by
              rw [← HS2.out]
              exact gC
            have hl63 := HL63.out
            have HM3 : Hid (M2 = (Mi ++ [UInt8.ofNat (fixL (labsOf q)[i]).length]) ++ fixL (labsOf q)[i]) := by rw [HM2.out, HM1.out]; rfl
            have hM2l : M2.length ≤ M.length + (wl + (1 + 1)) := by rw [HM3.out]; simp [hl63]; omega
            clear gB gC
            go_wp2
            go_roundw
            case rel =>
              have x := X.out
              rw [hl63] at x
              exact ⟨i + 1, wl + (1 + 1), dn ++ [fixL (labsOf q)[i]], M2, by omega, by go_num, by go_num, by omega, by simp; omega, hM2l, by rw [HM3.out, hl63]; exact x, gD⟩
            case measure => simp [intOf]; omega
          · have t1 : ((S.size : Int) == 0) = false := beq_eq_false_iff_ne.2 (by omega)
            have t2 : decide ((63 : Int) < (S.size : Int)) = false := decide_eq_false (by omega)
            have hfx : fixL S.data.toList = (S : ByteArray).data.toList := fix_mid hz hz2
            have hsz1 : (S : ByteArray).size = S.size := rfl
            have e0 : fixL (labsOf q)[i] = (S : ByteArray).data.toList := by rw [← HL.out]; exact hfx
            have HX : Hid ([Value.int .u8 ((S.size : Int) : Int)] = bvs [UInt8.ofNat (fixL (labsOf q)[i]).length]) := by
              rw [e0, len_data, hsz1]; simp [Hid, bvs, bv]; try omega
            have HK : Hid (byteCells S = bvs (fixL (labsOf q)[i])) := by rw [e0]; rfl
            have HS2 : Hid (svs dn ++ [Value.string S] = svs (dn ++ [fixL (labsOf q)[i]])) := lbl_strs e0
            have hfs : S.size ≤ 63 := by have := fixL_le S.data.toList; rw [hfx, len_data, hsz1] at this; exact this
            have hgo2 : wl + 1 + S.size ≤ 255 := by rw [hfx, len_data, hsz1] at hgo1; exact hgo1
            have HL63 : Hid ((fixL (labsOf q)[i]).length = S.size) := by rw [e0, len_data, hsz1]; rfl
            have hb1 : (bvs Mi).length + 1 ≤ 100000000 := by rw [bvs_length]; omega
            clear hfx e0 hgo1 hsz1
            go_wp2_with (at_builtin; refine wpList_append_rowK _ rfl (.tmp 88) (.tmp 92) 23 23 rfl w.heap.size 5 i5 (.int .u8 0) 1 1 Ybaf.underlying23 hi5 hz50 hz51 hz52 rfl _ _ _ rfl ((hGi.msgAt ht).alloc _) _ 1 [.int .u8 (S.size : Int)] rfl (Src.ofSlice _ Ybaf.underlying23 ⟨wr.heap.size, 0, none⟩ 1 1 [.int .u8 (S.size : Int)] rfl (news_alloc wr [.int .u8 (S.size : Int)] 5) (ints_one [_])) (max_ok hb1) (bytes_ok hb1 (by decide)) (by have := hGi.size; simp; omega) ?_)
            intro mv1 w1 h11 h12 h13 h14 h15
            have gA := hGi.msg ht HX.out rfl h11 h12 h13 (by simpa using h14)
            have hb2 : (bvs (Mi ++ [UInt8.ofNat (fixL (labsOf q)[i]).length])).length + S.size ≤ 100000000 := by rw [bvs_length]; simp; omega
            generalize hM1 : Mi ++ [UInt8.ofNat (fixL (labsOf q)[i]).length] = M1 at gA hb2
            have HM1 : Hid (M1 = Mi ++ [UInt8.ofNat (fixL (labsOf q)[i]).length]) := hM1.symm
            clear h11 h12 h13 h14 h15 hM1 hGi
            go_wp2_with (at_builtin; refine wpList_append_rowK _ rfl (.tmp 94) (.tmp 95) 23 9 rfl w.heap.size 5 i5 (.int .u8 0) 1 1 Ybaf.underlying23 hi5 hz50 hz51 hz52 rfl _ _ _ rfl (gA.msgAt ht) _ _ (byteCells S) rfl (Src.ofString w1 Ybaf.underlying9 S) (max_ok hb2) (bytes_ok hb2 (by decide)) gA.size ?_)
            intro mv2 w2 h21 h22 h23 h24 h25
            have gB := gA.msgS ht (K := fixL (labsOf q)[i]) HK.out HL63.out h21 h22 h23 (by simpa using h24)
            generalize hM2 : M1 ++ fixL (labsOf q)[i] = M2 at gB
            have HM2 : Hid (M2 = M1 ++ fixL (labsOf q)[i]) := hM2.symm
            have hb3 : (svs dn).length + 1 ≤ 100000000 := by simp [svs]; omega
            clear h21 h22 h23 h24 h25 hM2 gA
            go_wp2_with (at_builtin; refine wpList_append_rowK _ rfl (.tmp 97) (.tmp 99) 28 28 rfl w.heap.size 9 i9 (.string ⟨#[]⟩) 1 16 Ybaf.underlying28 hi9 hz90 hz91 hz92 rfl _ _ _ rfl ((gB.rowAt 0 rfl).alloc _) _ 1 [.string S] rfl (Src.ofSlice _ Ybaf.underlying28 ⟨w2.heap.size, 0, none⟩ 1 1 [.string S] rfl (news_alloc w2 [.string S] 9) (by intro u hu; simp at hu; subst hu; rfl)) (max_ok hb3) (bytes_ok hb3 (by decide)) (by have := gB.size; simp; omega) ?_)
            intro ls1 w3 h31 h32 h33 h34 h35
            have gC := gB.push 0 rfl rfl h31 h32 h33 (by simpa using h34)
            clear h31 h32 h33 h34 h35
            have gD : Goes w.heap.size wo Lo w3 (rowOf 9 ls1 (svs (dn ++ [fixL (labsOf q)[i]])) :: tl mv2 M2) := by
              rw [← HS2.out]
              exact gC
            have hl63 := HL63.out
            have HM3 : Hid (M2 = (Mi ++ [UInt8.ofNat (fixL (labsOf q)[i]).length]) ++ fixL (labsOf q)[i]) := by rw [HM2.out, HM1.out]; rfl
            have hM2l : M2.length ≤ M.length + (wl + (1 + S.size)) := by rw [HM3.out]; simp [hl63]; omega
            clear gB gC
            go_wp2
            go_roundw
            case rel =>
              have x := X.out
              rw [hl63] at x
              exact ⟨i + 1, wl + (1 + S.size), dn ++ [fixL (labsOf q)[i]], M2, by omega, by go_num, by go_num, by omega, by simp; omega, hM2l, by rw [HM3.out, hl63]; exact x, gD⟩
            case measure => simp [intOf]; omega
          · have t1 : ((S.size : Int) == 0) = false := beq_eq_false_iff_ne.2 (by omega)
            have t2 : decide ((63 : Int) < (S.size : Int)) = true := decide_eq_true (by omega)
            have hmin : min 63 S.size = 63 := by omega
            have hfx : fixL S.data.toList = ((S.extract 0 63) : ByteArray).data.toList := fix_long hz
            have hsz1 : ((S.extract 0 63) : ByteArray).size = 63 := by rw [ByteArray.size_extract]; omega
            have e0 : fixL (labsOf q)[i] = ((S.extract 0 63) : ByteArray).data.toList := by rw [← HL.out]; exact hfx
            have HX : Hid ([Value.int .u8 (63 : Int)] = bvs [UInt8.ofNat (fixL (labsOf q)[i]).length]) := by
              rw [e0, len_data, hsz1]; simp [Hid, bvs, bv]; try omega
            have HK : Hid (byteCells (S.extract 0 63) = bvs (fixL (labsOf q)[i])) := by rw [e0]; rfl
            have HS2 : Hid (svs dn ++ [Value.string (S.extract 0 63)] = svs (dn ++ [fixL (labsOf q)[i]])) := lbl_strs e0
            have hfs : 63 ≤ 63 := by have := fixL_le S.data.toList; rw [hfx, len_data, hsz1] at this; exact this
            have hgo2 : wl + 1 + 63 ≤ 255 := by rw [hfx, len_data, hsz1] at hgo1; exact hgo1
            have HSRC : Hid (∀ w1, Src Ybaf.prog 1 9 (.string (S.extract 0 63)) 63 (byteCells (S.extract 0 63)) w1) := fun w1 => by
              have := Src.ofString (P := Ybaf.prog) w1 Ybaf.underlying9 (S.extract 0 63)
              rw [hsz1] at this
              exact this
            have HL63 : Hid ((fixL (labsOf q)[i]).length = 63) := by rw [e0, len_data, hsz1]; rfl
            have hb1 : (bvs Mi).length + 1 ≤ 100000000 := by rw [bvs_length]; omega
            clear hfx e0 hgo1 hsz1
            go_wp2_with (at_builtin; refine wpList_append_rowK _ rfl (.tmp 88) (.tmp 92) 23 23 rfl w.heap.size 5 i5 (.int .u8 0) 1 1 Ybaf.underlying23 hi5 hz50 hz51 hz52 rfl _ _ _ rfl ((hGi.msgAt ht).alloc _) _ 1 [.int .u8 63] rfl (Src.ofSlice _ Ybaf.underlying23 ⟨wr.heap.size, 0, none⟩ 1 1 [.int .u8 63] rfl (news_alloc wr [.int .u8 63] 5) (ints_one [_])) (max_ok hb1) (bytes_ok hb1 (by decide)) (by have := hGi.size; simp; omega) ?_)
            intro mv1 w1 h11 h12 h13 h14 h15
            have gA := hGi.msg ht HX.out rfl h11 h12 h13 (by simpa using h14)
            have hb2 : (bvs (Mi ++ [UInt8.ofNat (fixL (labsOf q)[i]).length])).length + 63 ≤ 100000000 := by rw [bvs_length]; simp; omega
            generalize hM1 : Mi ++ [UInt8.ofNat (fixL (labsOf q)[i]).length] = M1 at gA hb2
            have HM1 : Hid (M1 = Mi ++ [UInt8.ofNat (fixL (labsOf q)[i]).length]) := hM1.symm
            clear h11 h12 h13 h14 h15 hM1 hGi
            go_wp2_with (at_builtin; refine wpList_append_rowK _ rfl (.tmp 94) (.tmp 95) 23 9 rfl w.heap.size 5 i5 (.int .u8 0) 1 1 Ybaf.underlying23 hi5 hz50 hz51 hz52 rfl _ _ _ rfl (gA.msgAt ht) _ 63 (byteCells (S.extract 0 63)) rfl (HSRC.out w1) (max_ok hb2) (bytes_ok hb2 (by decide)) gA.size ?_)
            intro mv2 w2 h21 h22 h23 h24 h25
            have gB := gA.msgS ht (K := fixL (labsOf q)[i]) HK.out HL63.out h21 h22 h23 (by simpa using h24)
            generalize hM2 : M1 ++ fixL (labsOf q)[i] = M2 at gB
            have HM2 : Hid (M2 = M1 ++ fixL (labsOf q)[i]) := hM2.symm
            have hb3 : (svs dn).length + 1 ≤ 100000000 := by simp [svs]; omega
            clear h21 h22 h23 h24 h25 hM2 gA
            go_wp2_with (at_builtin; refine wpList_append_rowK _ rfl (.tmp 97) (.tmp 99) 28 28 rfl w.heap.size 9 i9 (.string ⟨#[]⟩) 1 16 Ybaf.underlying28 hi9 hz90 hz91 hz92 rfl _ _ _ rfl ((gB.rowAt 0 rfl).alloc _) _ 1 [.string (S.extract 0 63)] rfl (Src.ofSlice _ Ybaf.underlying28 ⟨w2.heap.size, 0, none⟩ 1 1 [.string (S.extract 0 63)] rfl (news_alloc w2 [.string (S.extract 0 63)] 9) (by intro u hu; simp at hu; subst hu; rfl)) (max_ok hb3) (bytes_ok hb3 (by decide)) (by have := gB.size; simp; omega) ?_)
            intro ls1 w3 h31 h32 h33 h34 h35
            have gC := gB.push 0 rfl rfl h31 h32 h33 (by simpa using h34)
            clear h31 h32 h33 h34 h35
            have gD : Goes w.heap.size wo Lo w3 (rowOf 9 ls1 (svs (dn ++ [fixL (labsOf q)[i]])) :: tl mv2 M2) := by
              rw [← HS2.out]
              exact gC
            have hl63 := HL63.out
            have HM3 : Hid (M2 = (Mi ++ [UInt8.ofNat (fixL (labsOf q)[i]).length]) ++ fixL (labsOf q)[i]) := by rw [HM2.out, HM1.out]; rfl
            have hM2l : M2.length ≤ M.length + (wl + (1 + 63)) := by rw [HM3.out]; simp [hl63]; omega
            clear gB gC
            go_wp2
            go_roundw
            case rel =>
              have x := X.out
              rw [hl63] at x
              exact ⟨i + 1, wl + (1 + 63), dn ++ [fixL (labsOf q)[i]], M2, by omega, by go_num, by go_num, by omega, by simp; omega, hM2l, by rw [HM3.out, hl63]; exact x, gD⟩
            case measure => simp [intOf]; omega
        · obtain ⟨lao2, lcap2, hu17⟩ := (hGi.rowAt 0 rfl).form
          subst hu17
          have hway : Hid (cutL wl ((labsOf q).drop i) = []) ∧ ((¬ i < q.labels.length) ∨ (i < q.labels.length ∧ ∃ (lb lo : Nat) (S : ByteArray), q.lao = some ⟨lb, lo, none⟩ ∧ wr.cell? ⟨lb, lo + i, none⟩ = some (.string S) ∧ S.size ≤ 2 ^ 63 - 1 ∧
              ((((S.size : Int) == 0) = true ∧ 255 < wl + 1 + 1) ∨ ((((S.size : Int) == 0) = false ∧ decide ((63 : Int) < (S.size : Int)) = false) ∧ 255 < wl + 1 + S.size ∧ S.size ≤ 63) ∨ ((((S.size : Int) == 0) = false ∧ decide ((63 : Int) < (S.size : Int)) = true) ∧ min 63 S.size = 63 ∧ 255 < wl + 1 + 63)))) := by
            by_cases hil0 : i < q.labels.length
            · have hil : i < (labsOf q).length := by omega
              have hgo1 : ¬ wl + 1 + (fixL ((labsOf q).getD i [])).length ≤ 255 := fun h => hgo0 ⟨hil0, h⟩
              obtain ⟨lb, lo, hlao, hlb, hlc, hlm⟩ := HS.out.later (gO.below.trans hGi.below) i hil0
              have hSl : q.labels[i].data.toList = (labsOf q)[i] := by simp [labsOf]
              have egd : (labsOf q).getD i [] = q.labels[i].data.toList := by rw [hSl]; simp [List.getD_eq_getElem?_getD, List.getElem?_eq_getElem hil]
              rw [egd] at hgo1
              refine ⟨cut_stop hil (by rw [← hSl]; omega), .inr ⟨hil0, lb, lo, q.labels[i], hlao, hlc, hlm, ?_⟩⟩
              rcases (show q.labels[i].size = 0 ∨ (0 < q.labels[i].size ∧ q.labels[i].size ≤ 63) ∨ 63 < q.labels[i].size from by omega) with hz | ⟨hz, hz2⟩ | hz
              · exact .inl ⟨beq_iff_eq.2 (by omega), by rw [fix_zero hz] at hgo1; simp at hgo1; omega⟩
              · exact .inr (.inl ⟨⟨beq_eq_false_iff_ne.2 (by omega), decide_eq_false (by omega)⟩, by rw [fix_mid hz hz2, len_data] at hgo1; omega, hz2⟩)
              · exact .inr (.inr ⟨⟨beq_eq_false_iff_ne.2 (by omega), decide_eq_true (by omega)⟩, by omega, by rw [fix_long hz, len_data, ByteArray.size_extract] at hgo1; omega⟩)
            · exact ⟨cut_end (by omega), .inl hil0⟩
          obtain ⟨hcut, hways⟩ := hway
          have HDn : Hid _ := lbl_done hcut.out HD'.out
          have hb1 : (bvs Mi).length + 1 ≤ 100000000 := by rw [bvs_length]; omega
          clear hcut hgo0 hdl HD'
          rcases hways with hil0 | ⟨hil0, lb, lo, S, hlao, hlc, hlm, ⟨t1, t2⟩ | ⟨⟨t1, t3⟩, t2, t4⟩ | ⟨⟨t1, t3⟩, hmin, t2⟩⟩
          any_goals (rw [hlao] at *)
          all_goals
            go_wp2_with (at_builtin; refine wpList_append_rowK _ rfl (.tmp 102) (.tmp 103) 23 23 rfl w.heap.size 5 i5 (.int .u8 0) 1 1 Ybaf.underlying23 hi5 hz50 hz51 hz52 rfl _ _ _ rfl ((hGi.msgAt ht).alloc _) _ 1 [.int .u8 0] rfl (Src.ofSlice _ Ybaf.underlying23 ⟨wr.heap.size, 0, none⟩ 1 1 [.int .u8 0] rfl (news_alloc wr [.int .u8 0] 5) (ints_one [0])) (max_ok hb1) (bytes_ok hb1 (by decide)) (by have := hGi.size; simp; omega) ?_)
            intro mv1 w1 h11 h12 h13 h14 h15
            have gA := hGi.msg ht (K := [0]) rfl rfl h11 h12 h13 (by simpa using h14)
            have hM1l : (Mi ++ [0]).length ≤ Mi.length + 1 := by simp
            generalize hM1 : Mi ++ [(0 : UInt8)] = M1 at gA hM1l
            have HM1 : Hid (M1 = Mi ++ [0]) := hM1.symm
            have x1 := gA.own.box_cell 1 (by simpa using Htb.out mv1 M1) 1 rfl
            clear h11 h12 h13 h14 h15 hM1 hGi
            go_wp2_with fail
            refine (appendU16_any w.heap.size mv1 _ _ q.ty _ (gA.msgAt ht) gA.size (by rw [bvs_length]; omega) c6 c7).mono ?_
            rintro e w2 ⟨mv2, rfl, hap⟩
            have gB := gA.msgK ht c6 c7 hap
            have hM2l : (M1 ++ be16 q.ty.toNat).length ≤ Mi.length + 3 := by simp [be16]; omega
            generalize hM2 : M1 ++ be16 q.ty.toNat = M2 at gB hM2l
            have HM2 : Hid (M2 = M1 ++ be16 q.ty.toNat) := hM2.symm
            have x2 := gB.own.box_cell 1 (by simpa using Htb.out mv2 M2) 2 rfl
            clear hap hM2 gA x1
            go_wp2_with fail
            refine (appendU16_any w.heap.size mv2 _ _ q.cl _ (gB.msgAt ht) gB.size (by rw [bvs_length]; omega) c8 c9).mono ?_
            rintro e w3 ⟨mv3, rfl, hap⟩
            have gC := gB.msgK ht c8 c9 hap
            have hM3l : (M2 ++ be16 q.cl.toNat).length ≤ Mi.length + 5 := by simp [be16]; omega
            generalize hM3 : M2 ++ be16 q.cl.toNat = M3 at gC hM3l
            have HM3 : Hid (M3 = M2 ++ be16 q.cl.toNat) := hM3.symm
            clear hap hM3 gB x2
            have gE : Goes w.heap.size wo Lo w3 (rowOf 9 (.slice lao2 (svs dn).length lcap2) (svs dn) :: box 61 wo.heap.size [.slice q.lao q.labels.length q.lcap, .int .u16 q.ty, .int .u16 q.cl] :: LB mv3 M3 nv tv cv (.slice none 0 0) (.slice none 0 0) nvs TY CL [] [] (w.heap.size + 1) w.heap.size) := by
              have := gC; rw [Htl.out] at this; exact this
            clear gC
            -- the names
            have n0 := gE.own.box_cell 8 rfl 0 rfl
            have hbn : nvs.length + 1 ≤ 100000000 := by omega
            obtain ⟨nao, ncap, hnv⟩ := (gE.rowAt 6 rfl).form
            subst hnv
            go_wp2_with (at_builtin; refine wpList_append_rowK _ rfl (.tmp 116) (.tmp 118) 40 40 rfl w.heap.size 28 i28 (.slice none 0 0) 1 24 Ybaf.underlying40 hi28 hz280 hz281 hz282 rfl _ _ _ rfl ((gE.rowAt 6 rfl).alloc _) _ 1 [.slice lao2 (svs dn).length lcap2] rfl (Src.ofSlice _ Ybaf.underlying40 ⟨w3.heap.size, 0, none⟩ 1 1 [.slice lao2 (svs dn).length lcap2] rfl (news_alloc w3 [.slice lao2 (svs dn).length lcap2] 28) (by intro u hu; simp at hu; subst hu; rfl)) (max_ok hbn) (bytes_ok hbn (by decide)) (by have := gE.size; simp; omega) ?_)
            intro nv1 w4 h41 h42 h43 h44 h45
            have gF := gE.push 6 rfl rfl h41 h42 h43 (by simpa using h44)
            obtain ⟨nao1, ncap1, hnv1⟩ := h41.form
            clear h41 h42 h43 h44 h45 n0 gE
            subst hnv1
            have n0 := gF.own.box_cell 8 rfl 0 rfl
            have n1 := gF.own.box_cell 8 rfl 1 rfl
            have nf := gF.own.box_frozen 8 rfl 0 (by simp)
            have x1 := gF.own.box_cell 1 rfl 1 rfl
            have hbt : TY.length + 1 ≤ 100000000 := by omega
            obtain ⟨tao, tcap, htv⟩ := (gF.rowAt 5 rfl).form
            subst htv
            have gG := gF.setBox 8 rfl (by decide) 0 (by simp) (.slice nao1 (nvs.length + 1) ncap1)
            go_wp2_with (at_builtin; refine wpList_append_rowK _ rfl (.tmp 122) (.tmp 125) 37 37 rfl w.heap.size 59 i59 (.int .u16 0) 1 2 Ybaf.underlying37 hi59 hz590 hz591 hz592 rfl _ _ _ rfl ((gG.rowAt 5 rfl).alloc _) _ 1 [.int .u16 q.ty] rfl (Src.ofSlice _ Ybaf.underlying37 ⟨w4.heap.size, 0, none⟩ 1 1 [.int .u16 q.ty] rfl (by simpa using news_alloc (w4.setCell ⟨w.heap.size + 1, 0, none⟩ (.slice nao1 (nvs.length + 1) ncap1)) [.int .u16 q.ty] 59) (by intro u hu; simp at hu; subst hu; rfl)) (max_ok hbt) (bytes_ok hbt (by decide)) (by have := gG.size; simp at this ⊢; omega) ?_)
            intro tv1 w5 h51 h52 h53 h54 h55
            have gH := gG.push 5 rfl rfl h51 h52 (by simpa using h53) (by simpa using h54)
            obtain ⟨tao1, tcap1, htv1⟩ := h51.form
            clear h51 h52 h53 h54 h55 n0 n1 nf x1 gF gG
            subst htv1
            have n1 := gH.own.box_cell 8 rfl 1 rfl
            have n2 := gH.own.box_cell 8 rfl 2 rfl
            have nf := gH.own.box_frozen 8 rfl 1 (by simp)
            have x2 := gH.own.box_cell 1 rfl 2 rfl
            have hbc : CL.length + 1 ≤ 100000000 := by omega
            obtain ⟨cao, ccap, hcv⟩ := (gH.rowAt 4 rfl).form
            subst hcv
            have gI := gH.setBox 8 rfl (by decide) 1 (by simp) (.slice tao1 (TY.length + 1) tcap1)
            go_wp2_with (at_builtin; refine wpList_append_rowK _ rfl (.tmp 129) (.tmp 132) 37 37 rfl w.heap.size 59 i59 (.int .u16 0) 1 2 Ybaf.underlying37 hi59 hz590 hz591 hz592 rfl _ _ _ rfl ((gI.rowAt 4 rfl).alloc _) _ 1 [.int .u16 q.cl] rfl (Src.ofSlice _ Ybaf.underlying37 ⟨w5.heap.size, 0, none⟩ 1 1 [.int .u16 q.cl] rfl (by simpa using news_alloc (w5.setCell ⟨w.heap.size + 1, 1, none⟩ (.slice tao1 (TY.length + 1) tcap1)) [.int .u16 q.cl] 59) (by intro u hu; simp at hu; subst hu; rfl)) (max_ok hbc) (bytes_ok hbc (by decide)) (by have := gI.size; simp at this ⊢; omega) ?_)
            intro cv1 w6 h61 h62 h63 h64 h65
            have gJ := gI.push 4 rfl rfl h61 h62 (by simpa using h63) (by simpa using h64)
            obtain ⟨cao1, ccap1, hcv1⟩ := h61.form
            clear h61 h62 h63 h64 h65 n1 n2 nf x2 gH gI
            subst hcv1
            have n2 := gJ.own.box_cell 8 rfl 2 rfl
            have nf := gJ.own.box_frozen 8 rfl 2 (by simp)
            have gK0 := gJ.setBox 8 rfl (by decide) 2 (by simp) (.slice cao1 (CL.length + 1) ccap1)
            have gK : Goes w.heap.size wo Lo (w6.setCell ⟨w.heap.size + 1, 2, none⟩ (.slice cao1 (CL.length + 1) ccap1)) (rowOf 9 (.slice lao2 (svs dn).length lcap2) (svs dn) :: box 61 wo.heap.size [.slice q.lao q.labels.length q.lcap, .int .u16 q.ty, .int .u16 q.cl] :: LB mv3 M3 (.slice nao1 (nvs.length + 1) ncap1) (.slice tao1 (TY.length + 1) tcap1) (.slice cao1 (CL.length + 1) ccap1) (.slice none 0 0) (.slice none 0 0) (nvs ++ [.slice lao2 (svs dn).length lcap2]) (TY ++ [.int .u16 q.ty]) (CL ++ [.int .u16 q.cl]) [] [] (w.heap.size + 1) w.heap.size) := gK0
            have F := q_finish hlt HQ.out HNL.out HTY.out HCL.out HM.out HDn.out HM1.out HM2.out HM3.out gO gK HN'.out
            have HF : Hid _ := F
            have hM3b : M3.length ≤ 12 + 261 * (k + 1) := by omega
            clear gJ gK0 gK F
            go_wp2
            go_roundw
            case rel => exact ⟨k + 1, _, _, _, M3, nvs ++ [.slice lao2 (svs dn).length lcap2], by omega, by go_num, hM3b, HF.out.1, HF.out.2.1, HF.out.2.2.1, HF.out.2.2.2⟩
            case measure => simp [intOf]; omega
    · have hke : k = qs.length := by omega
      subst hke
      have HM' : Hid (M = hdr fl qs.length ots.length nopt ++ encQs (qs.map mqV)) := by have := HM.out; rw [List.take_length] at this; exact this
      have HTY' : Hid (TY = qs.map tyV) := by have := HTY.out; rw [List.take_length] at this; exact this
      have HCL' : Hid (CL = qs.map clV) := by have := HCL.out; rw [List.take_length] at this; exact this
      clear HM HTY HCL
      obtain ⟨wA, rfl⟩ : ∃ x : World, x = wr := ⟨_, rfl⟩
      obtain ⟨mvA, rfl⟩ : ∃ x : Value, x = u13 := ⟨_, rfl⟩
      obtain ⟨LA, hLA⟩ : ∃ LA, LA = LB mvA M nv tv cv (.slice none 0 0) (.slice none 0 0) nvs TY CL [] [] (w.heap.size + 1) w.heap.size := ⟨_, rfl⟩
      obtain ⟨tl, htl⟩ : ∃ tl : Value → List UInt8 → List RowS, tl = fun mv M' => [rowOf 59 (.slice none 0 0) [], rowOf 59 cv CL, rowOf 59 tv TY, rowOf 28 nv nvs, rowOf 5 mv (bvs M'), box 42 (w.heap.size + 1) [nv, tv, cv, .slice none 0 0, .slice none 0 0], box 42 w.heap.size nil5] := ⟨_, rfl⟩
      have gA0 : Goes w.heap.size wA LA wA (rowOf 23 (.slice none 0 0) [] :: tl mvA M) := by
        have := Goes.refl hG.own hG.size
        rw [hLA, htl]; exact this
      have gW : Goes w.heap.size w [] wA LA := by rw [hLA]; exact hG
      have HNA : Hid (∀ j (hj : j < nvs.length) (hj2 : j < qs.length), StrAt wA LA nvs[j] (cutL 1 (labsOf qs[j]))) := by rw [hLA]; exact HN.out
      have ht : Tl 4 tl := by rw [htl]; exact ⟨fun mv M => rfl, fun mv M mv' M' => rfl⟩
      have Htl : Hid (tl = fun mv M' => [rowOf 59 (.slice none 0 0) [], rowOf 59 cv CL, rowOf 59 tv TY, rowOf 28 nv nvs, rowOf 5 mv (bvs M'), box 42 (w.heap.size + 1) [nv, tv, cv, .slice none 0 0, .slice none 0 0], box 42 w.heap.size nil5]) := htl
      clear htl hLA hG HN
      go_wp2_with fail
      go_loopw [13, 138] (fun mv iv wr => ∃ (i : Nat) (Mi : List UInt8), i ≤ ots.length ∧ iv = .int .i64 i ∧ Mi.length ≤ M.length + 11 * i ∧ Hid (Mi = M ++ encRs ((ots.take i).map fun z => orec z.toNat)) ∧ Goes w.heap.size wA LA wr (rowOf 23 (.slice none 0 0) [] :: tl mv Mi)) (fun _ iv _ => ots.length - (intOf iv).toNat)
      case atStart => exact ⟨0, M, by omega, rfl, by omega, by simp [Hid, encRs], gA0⟩
      case round =>
        obtain ⟨i, Mi, hi, rfl, hMil, HMi, hGi⟩ := hrel
        by_cases hil : i < ots.length
        · obtain ⟨ob, oo, hoao, hob, hoc⟩ := ho.out.later (gW.below.trans hGi.below) i hil
          rw [hoao] at *
          have hzz := hoz.out _ (List.getElem_mem hil)
          obtain ⟨z, hz⟩ : ∃ z, z = ots[i] := ⟨_, rfl⟩
          rw [← hz] at hoc hzz
          have HZ : Hid (z = ots[i]) := hz
          obtain ⟨hz0, hz1⟩ := hzz
          clear hz
          have hb1 : (bvs Mi).length + 1 ≤ 100000000 := by rw [bvs_length]; omega
          have hzc : ∃ z2 : Int, 0 ≤ z2 ∧ z2 ≤ 65535 ∧ Hid (orec z.toNat = ⟨z2.toNat, [0, 1, 0, 0, 0, 0], []⟩) ∧ (((z == 41) = true ∧ z2 = 1) ∨ ((z == 41) = false ∧ z2 = z)) := by
            by_cases h41 : z = 41
            · exact ⟨1, by omega, by omega, by rw [h41]; rfl, .inl ⟨by simp [h41], rfl⟩⟩
            · exact ⟨z, hz0, hz1, by unfold orec; rw [if_neg (by omega)]; rfl, .inr ⟨by simp [h41], rfl⟩⟩
          obtain ⟨z2, hz20, hz21, HO, hzw⟩ := hzc
          have HO2 := orec_step (ots := ots) hil HZ.out HMi.out HO.out
          have HO3 : Hid _ := HO2
          clear HO2
          rcases hzw with ⟨t1, hz2⟩ | ⟨t1, hz2⟩
          · subst hz2
            go_wp2_with (at_builtin; refine wpList_append_rowK _ rfl (.tmp 144) (.tmp 145) 23 23 rfl w.heap.size 5 i5 (.int .u8 0) 1 1 Ybaf.underlying23 hi5 hz50 hz51 hz52 rfl _ _ _ rfl ((hGi.msgAt ht).alloc _) _ 1 [.int .u8 0] rfl (Src.ofSlice _ Ybaf.underlying23 ⟨wr.heap.size, 0, none⟩ 1 1 [.int .u8 0] rfl (news_alloc wr [.int .u8 0] 5) (ints_one [0])) (max_ok hb1) (bytes_ok hb1 (by decide)) (by have := hGi.size; simp; omega) ?_)
            intro mv1 w1 h11 h12 h13 h14 h15
            have gA := hGi.msg ht (K := [0]) rfl rfl h11 h12 h13 (by simpa using h14)
            have hM1l : (Mi ++ [0]).length ≤ Mi.length + 1 := by simp
            generalize hM1 : Mi ++ [(0 : UInt8)] = M1 at gA hM1l
            have HM1 : Hid (M1 = Mi ++ [0]) := hM1.symm
            clear h11 h12 h13 h14 h15 hM1 hGi
            go_wp2_with fail
            refine (appendU16_any w.heap.size mv1 _ _ 1 _ (gA.msgAt ht) gA.size (by rw [bvs_length]; omega) hz20 hz21).mono ?_
            rintro e w2 ⟨mv2, rfl, hap⟩
            have gB := gA.msgK ht hz20 hz21 hap
            have hM2 := HO3.out M1 HM1.out
            have hM2l : (M1 ++ be16 (1 : Int).toNat).length ≤ M1.length + 2 := be_len M1 _
            generalize hMM : M1 ++ be16 (1 : Int).toNat = M2 at gB hM2 hM2l
            have HM2 : Hid _ := hM2
            have hb3 : (bvs M2).length + 8 ≤ 100000000 := by rw [bvs_length]; omega
            clear hap hM2 hMM gA
            go_wp2_with (at_builtin; refine wpList_append_rowK _ rfl (.tmp 151) (.tmp 152) 23 23 rfl w.heap.size 5 i5 (.int .u8 0) 1 1 Ybaf.underlying23 hi5 hz50 hz51 hz52 rfl _ _ _ rfl ((gB.msgAt ht).alloc _) _ 8 [.int .u8 0, .int .u8 1, .int .u8 0, .int .u8 0, .int .u8 0, .int .u8 0, .int .u8 0, .int .u8 0] rfl (Src.ofSlice _ Ybaf.underlying23 ⟨w2.heap.size, 0, none⟩ 8 8 [.int .u8 0, .int .u8 1, .int .u8 0, .int .u8 0, .int .u8 0, .int .u8 0, .int .u8 0, .int .u8 0] rfl (news_alloc w2 [.int .u8 0, .int .u8 1, .int .u8 0, .int .u8 0, .int .u8 0, .int .u8 0, .int .u8 0, .int .u8 0] 5) (ints_one [0, 1, 0, 0, 0, 0, 0, 0])) (max_ok hb3) (bytes_ok hb3 (by decide)) (by have := gB.size; simp; omega) ?_)
            intro mv3 w3 h31 h32 h33 h34 h35
            have gC := gB.msg ht (K := [0, 1, 0, 0, 0, 0, 0, 0]) rfl rfl h31 h32 h33 (by simpa using h34)
            have hM3l : (M2 ++ [0, 1, 0, 0, 0, 0, 0, 0]).length ≤ M.length + 11 * (i + 1) := by simp; omega
            generalize hMM : M2 ++ [0, 1, 0, 0, 0, 0, 0, 0] = M3 at gC hM3l
            have HM3 : Hid (M3 = M2 ++ [0, 1, 0, 0, 0, 0, 0, 0]) := hMM.symm
            clear h31 h32 h33 h34 h35 hMM gB
            go_wp2
            go_roundw
            case rel => exact ⟨i + 1, M3, by omega, by go_num, hM3l, by rw [HM3.out]; exact HM2.out, gC⟩
            case measure => simp [intOf]; omega
          · subst hz2
            go_wp2_with (at_builtin; refine wpList_append_rowK _ rfl (.tmp 144) (.tmp 145) 23 23 rfl w.heap.size 5 i5 (.int .u8 0) 1 1 Ybaf.underlying23 hi5 hz50 hz51 hz52 rfl _ _ _ rfl ((hGi.msgAt ht).alloc _) _ 1 [.int .u8 0] rfl (Src.ofSlice _ Ybaf.underlying23 ⟨wr.heap.size, 0, none⟩ 1 1 [.int .u8 0] rfl (news_alloc wr [.int .u8 0] 5) (ints_one [0])) (max_ok hb1) (bytes_ok hb1 (by decide)) (by have := hGi.size; simp; omega) ?_)
            intro mv1 w1 h11 h12 h13 h14 h15
            have gA := hGi.msg ht (K := [0]) rfl rfl h11 h12 h13 (by simpa using h14)
            have hM1l : (Mi ++ [0]).length ≤ Mi.length + 1 := by simp
            generalize hM1 : Mi ++ [(0 : UInt8)] = M1 at gA hM1l
            have HM1 : Hid (M1 = Mi ++ [0]) := hM1.symm
            clear h11 h12 h13 h14 h15 hM1 hGi
            go_wp2_with fail
            refine (appendU16_any w.heap.size mv1 _ _ z2 _ (gA.msgAt ht) gA.size (by rw [bvs_length]; omega) hz20 hz21).mono ?_
            rintro e w2 ⟨mv2, rfl, hap⟩
            have gB := gA.msgK ht hz20 hz21 hap
            have hM2 := HO3.out M1 HM1.out
            have hM2l : (M1 ++ be16 (z2 : Int).toNat).length ≤ M1.length + 2 := be_len M1 _
            generalize hMM : M1 ++ be16 (z2 : Int).toNat = M2 at gB hM2 hM2l
            have HM2 : Hid _ := hM2
            have hb3 : (bvs M2).length + 8 ≤ 100000000 := by rw [bvs_length]; omega
            clear hap hM2 hMM gA
            go_wp2_with (at_builtin; refine wpList_append_rowK _ rfl (.tmp 151) (.tmp 152) 23 23 rfl w.heap.size 5 i5 (.int .u8 0) 1 1 Ybaf.underlying23 hi5 hz50 hz51 hz52 rfl _ _ _ rfl ((gB.msgAt ht).alloc _) _ 8 [.int .u8 0, .int .u8 1, .int .u8 0, .int .u8 0, .int .u8 0, .int .u8 0, .int .u8 0, .int .u8 0] rfl (Src.ofSlice _ Ybaf.underlying23 ⟨w2.heap.size, 0, none⟩ 8 8 [.int .u8 0, .int .u8 1, .int .u8 0, .int .u8 0, .int .u8 0, .int .u8 0, .int .u8 0, .int .u8 0] rfl (news_alloc w2 [.int .u8 0, .int .u8 1, .int .u8 0, .int .u8 0, .int .u8 0, .int .u8 0, .int .u8 0, .int .u8 0] 5) (ints_one [0, 1, 0, 0, 0, 0, 0, 0])) (max_ok hb3) (bytes_ok hb3 (by decide)) (by have := gB.size; simp; omega) ?_)
            intro mv3 w3 h31 h32 h33 h34 h35
            have gC := gB.msg ht (K := [0, 1, 0, 0, 0, 0, 0, 0]) rfl rfl h31 h32 h33 (by simpa using h34)
            have hM3l : (M2 ++ [0, 1, 0, 0, 0, 0, 0, 0]).length ≤ M.length + 11 * (i + 1) := by simp; omega
            generalize hMM : M2 ++ [0, 1, 0, 0, 0, 0, 0, 0] = M3 at gC hM3l
            have HM3 : Hid (M3 = M2 ++ [0, 1, 0, 0, 0, 0, 0, 0]) := hMM.symm
            clear h31 h32 h33 h34 h35 hMM gB
            go_wp2
            go_roundw
            case rel => exact ⟨i + 1, M3, by omega, by go_num, hM3l, by rw [HM3.out]; exact HM2.out, gC⟩
            case measure => simp [intOf]; omega
        · have hke : i = ots.length := by omega
          subst hke
          rw [List.take_length] at HMi
          obtain ⟨wB, rfl⟩ : ∃ x : World, x = wr := ⟨_, rfl⟩
          obtain ⟨mvB, rfl⟩ : ∃ x : Value, x = u13 := ⟨_, rfl⟩
          have gB0 : Goes w.heap.size wA LA wB (LB mvB Mi nv tv cv (.slice none 0 0) (.slice none 0 0) nvs TY CL [] [] (w.heap.size + 1) w.heap.size) := by
            have := hGi; rw [Htl.out] at this; exact this
          clear hGi Htl ht gA0
          have hMib : Mi.length ≤ 12 + 261 * qs.length + 11 * ots.length := by omega
          go_wp2_with fail
          go_loopw [13, 22] (fun mv jv wr => PRel4 w.heap.size wA LA ops nopt Mi (fun mv M4 ov dv CO DA => LB mv M4 nv tv cv ov dv nvs TY CL CO DA (w.heap.size + 1) w.heap.size) mv jv wr) (fun _ jv _ => nopt - (intOf jv).toNat)
          case atStart => exact ⟨0, Mi, _, _, [], [], by omega, rfl, by omega, by simp [Hid, optsR, encRs], ⟨fun _ => ⟨rfl, rfl, rfl, rfl⟩, fun h => absurd h (Nat.lt_irrefl _)⟩, gB0⟩
          case round =>
            obtain ⟨j, M4, ovc, dvc, COc, DAc, hj, rfl, hM4l, HM4, HCO, hG4⟩ := hrel
            obtain ⟨wc, rfl⟩ : ∃ x : World, x = wr := ⟨_, rfl⟩
            obtain ⟨mvC, rfl⟩ : ∃ x : Value, x = u13 := ⟨_, rfl⟩
            by_cases hjn : j < nopt
            · by_cases hj0 : j = 0
              · subst hj0
                obtain ⟨rfl, rfl, rfl, rfl⟩ := HCO.out.1 rfl
                clear HCO
                have gn := hG4.nilRow 5
                clear hG4
                go_wp2_with fail
                go_loopw [23, 164] (fun rdv iv wr => ORel w.heap.size wA LA ops (fun ov dv CO DA => LB mvC M4 nv tv cv ov dv nvs TY CL CO DA (w.heap.size + 1) w.heap.size) rdv iv wr) (fun _ iv _ => ops.length - (intOf iv).toNat)
                case atStart => exact ⟨0, [], _, _, [], [], by omega, rfl, ⟨rfl, rfl, rfl⟩, Nat.le_refl _, Nat.le_refl _, Nat.le_refl _, gn⟩
                case round =>
                  obtain ⟨io, RDi, ov, dv, CO, DA, hio', rfl, Hopt, hRl, hCOl, hDAl, hGo⟩ := hrel
                  by_cases hio : io < ops.length
                  · obtain ⟨pb, po, hpao, hpb, o1, o2, o3, o4, o5, o6, o7, o8⟩ := hp.out.later (gW.below.trans hGo.below) io hio
                    rw [hpao] at *
                    obtain ⟨o, hok⟩ : ∃ o, o = ops[io] := ⟨_, rfl⟩
                    rw [← hok] at o1 o2 o3 o4 o5 o6 o7 o8
                    have HOk : Hid (o = ops[io]) := hok
                    have HOI : Hid (IntsAt w .u8 o.dao o.data) := by
                      obtain ⟨_, _, _, _, _, _, d3, _⟩ := hp.out io hio
                      rw [← hok] at d3; exact d3
                    have HOZ : Hid (∀ z ∈ o.data, 0 ≤ z ∧ z ≤ 255) := o6
                    obtain ⟨rao, rcap, hrv⟩ := (hGo.rowAt 0 rfl).form
                    subst hrv
                    unfold maxLen at o4
                    have g0 := hGo.cons (box_new wr w.heap.size 67 [.int .u16 o.code, .slice o.dao o.data.length o.dcap] hGo.size) (World.grownBy_alloc _ _ none) (fun k hk => by simp [box, Value.ownBlock] at hk; omega)
                    obtain ⟨tl5, htl5⟩ : ∃ tl : Value → List UInt8 → List RowS, tl = fun rv R' => rowOf 5 rv (bvs R') :: LB mvC M4 nv tv cv ov dv nvs TY CL CO DA (w.heap.size + 1) w.heap.size := ⟨_, rfl⟩
                    have ht5 : Tl 0 tl5 := by rw [htl5]; exact ⟨fun mv M => rfl, fun mv M mv' M' => rfl⟩
                    have g1 : Goes w.heap.size wA LA (wr.alloc (.cells #[.int .u16 o.code, .slice o.dao o.data.length o.dcap] 67)) (box 67 wr.heap.size [.int .u16 o.code, .slice o.dao o.data.length o.dcap] :: tl5 (.slice rao (bvs RDi).length rcap) RDi) := by rw [htl5]; exact g0
                    have Htl5 : Hid (tl5 = fun rv R' => rowOf 5 rv (bvs R') :: LB mvC M4 nv tv cv ov dv nvs TY CL CO DA (w.heap.size + 1) w.heap.size) := htl5
                    have hwr2 : w.heap.size + 1 < wr.heap.size := by have := hGo.below.size; have := gW.size; have := (RowM.lt (hGo.own.rows 7 (by simp [LB])) _ rfl).2; exact this
                    clear htl5 g0 hGo hok o3 o6
                    by_cases hd : 200 < o.data.length
                    rotate_left 1
                    · have t1 : decide ((200 : Int) < (o.data.length : Int)) = false := decide_eq_false (by omega)
                      have hmn : min o.data.length 200 = o.data.length := by omega
                      have HDV : Hid (dataV o = (.slice o.dao o.data.length o.dcap)) := by unfold dataV; rw [hmn]; rfl
                      have hwd : IntKind.u16.wrap ((o.data.length : Int) : Int) = (o.data.length : Int) := by rw [IntKind.wrap_u16]; omega
                      go_wp2_with fail
                      refine (appendU16_any w.heap.size (.slice rao (bvs RDi).length rcap) _ _ o.code _ (g1.msgAt ht5) g1.size (by rw [bvs_length]; omega) o7 o8).mono ?_
                      rintro e w1 ⟨rv1, rfl, hap⟩
                      have gA := g1.msgK ht5 o7 o8 hap
                      have hR1l : (RDi ++ be16 o.code.toNat).length ≤ RDi.length + 2 := be_len RDi _
                      generalize hR1 : RDi ++ be16 o.code.toNat = R1 at gA hR1l
                      have HR1 : Hid (R1 = RDi ++ be16 o.code.toNat) := hR1.symm
                      clear hap hR1 g1
                      go_wp2_with fail
                      refine (appendU16_any w.heap.size rv1 _ _ ((o.data.length : Int) : Int) _ (gA.msgAt ht5) gA.size (by rw [bvs_length]; omega) (by omega) (by omega)).mono ?_
                      rintro e w2 ⟨rv2, rfl, hap⟩
                      have gB := gA.msgK ht5 (x := ((o.data.length : Int) : Int)) (by omega) (by omega) hap
                      have hen : ((o.data.length : Int) : Int).toNat = min o.data.length 200 := by omega
                      have hR2l : (R1 ++ be16 ((o.data.length : Int) : Int).toNat).length ≤ R1.length + 2 := be_len R1 _
                      generalize hR2 : R1 ++ be16 ((o.data.length : Int) : Int).toNat = R2 at gB hR2l
                      have HR2 : Hid (R2 = R1 ++ be16 (min o.data.length 200)) := by rw [← hR2, hen]; rfl
                      have hsrc := src_ints (cap := o.dcap) (HOI.out.later (gW.below.trans gB.below)) (n := min o.data.length 200) (by omega)
                      rw [ovD_bvs HOZ.out, hmn] at hsrc
                      have hb6 : (bvs R2).length + o.data.length ≤ 100000000 := by rw [bvs_length]; omega
                      clear hap hR2 gA hen
                      go_wp2_with (at_builtin; refine wpList_append_rowK _ rfl (.tmp 186) (.tmp 187) 23 23 rfl w.heap.size 5 i5 (.int .u8 0) 1 1 Ybaf.underlying23 hi5 hz50 hz51 hz52 rfl _ _ _ rfl (gB.msgAt ht5) _ _ _ rfl hsrc (max_ok hb6) (bytes_ok hb6 (by decide)) gB.size ?_)
                      intro rv3 w3 h31 h32 h33 h34 h35
                      have gC := gB.msgS ht5 (K := ovD o) rfl (by rw [ovD_length]; omega) h31 h32 h33 (by simpa using h34)
                      have hR3l : (R2 ++ ovD o).length ≤ R2.length + 200 := by have := ovD_le o; simp; omega
                      generalize hR3 : R2 ++ ovD o = R3 at gC hR3l
                      have HR3 : Hid (R3 = ((RDi ++ be16 o.code.toNat) ++ be16 (min o.data.length 200)) ++ ovD o) := by rw [← hR3, HR2.out, HR1.out]; rfl
                      have gE : Goes w.heap.size wA LA w3 (box 67 wr.heap.size [.int .u16 o.code, .slice o.dao o.data.length o.dcap] :: rowOf 5 rv3 (bvs R3) :: LB mvC M4 nv tv cv ov dv nvs TY CL CO DA (w.heap.size + 1) w.heap.size) := by
                        have := gC; rw [Htl5.out] at this; exact this
                      clear h31 h32 h33 h34 h35 hR3 gB gC hsrc
                      have n3 := gE.own.box_cell 8 rfl 3 rfl
                      have x0 := gE.own.box_cell 0 rfl 0 rfl
                      have hbc : CO.length + 1 ≤ 100000000 := by omega
                      obtain ⟨oao4, ocap4, hov⟩ := (gE.rowAt 3 rfl).form
                      subst hov
                      go_wp2_with (at_builtin; refine wpList_append_rowK _ rfl (.tmp 190) (.tmp 193) 37 37 rfl w.heap.size 59 i59 (.int .u16 0) 1 2 Ybaf.underlying37 hi59 hz590 hz591 hz592 rfl _ _ _ rfl ((gE.rowAt 3 rfl).alloc _) _ 1 [.int .u16 o.code] rfl (Src.ofSlice _ Ybaf.underlying37 ⟨w3.heap.size, 0, none⟩ 1 1 [.int .u16 o.code] rfl (news_alloc w3 [.int .u16 o.code] 59) (by intro u hu; simp at hu; subst hu; rfl)) (max_ok hbc) (bytes_ok hbc (by decide)) (by have := gE.size; simp; omega) ?_)
                      intro ov1 w5 h51 h52 h53 h54 h55
                      have gH := gE.push 3 rfl rfl h51 h52 h53 (by simpa using h54)
                      obtain ⟨oao5, ocap5, hov1⟩ := h51.form
                      clear h51 h52 h53 h54 h55 n3 x0 gE
                      subst hov1
                      have n3 := gH.own.box_cell 8 rfl 3 rfl
                      have n4 := gH.own.box_cell 8 rfl 4 rfl
                      have nf := gH.own.box_frozen 8 rfl 3 (by simp)
                      have hbd : DA.length + 1 ≤ 100000000 := by omega
                      obtain ⟨dao4, dcap4, hdv⟩ := (gH.rowAt 2 rfl).form
                      subst hdv
                      have gI := gH.setBox 8 rfl (by decide) 3 (by simp) (.slice oao5 (CO.length + 1) ocap5)
                      go_wp2_with (at_builtin; refine wpList_append_rowK _ rfl (.tmp 197) (.tmp 199) 26 26 rfl w.heap.size 23 i23 (.slice none 0 0) 1 24 Ybaf.underlying26 hi23 hz230 hz231 hz232 rfl _ _ _ rfl ((gI.rowAt 2 rfl).alloc _) _ 1 [(.slice o.dao o.data.length o.dcap)] rfl (Src.ofSlice _ Ybaf.underlying26 ⟨w5.heap.size, 0, none⟩ 1 1 [(.slice o.dao o.data.length o.dcap)] rfl (by simpa using news_alloc (w5.setCell ⟨w.heap.size + 1, 3, none⟩ (.slice oao5 (CO.length + 1) ocap5)) [(.slice o.dao o.data.length o.dcap)] 23) (by intro u hu; simp at hu; subst hu; rfl)) (max_ok hbd) (bytes_ok hbd (by decide)) (by have := gI.size; simp at this ⊢; omega) ?_)
                      intro dv1 w6 h61 h62 h63 h64 h65
                      have gJ := gI.push 2 rfl rfl h61 h62 (by simpa using h63) (by simpa using h64)
                      obtain ⟨dao6, dcap6, hdv1⟩ := h61.form
                      clear h61 h62 h63 h64 h65 n3 n4 nf gH gI
                      subst hdv1
                      have n4 := gJ.own.box_cell 8 rfl 4 rfl
                      have nf := gJ.own.box_frozen 8 rfl 4 (by simp)
                      have gK0 := gJ.setBox 8 rfl (by decide) 4 (by simp) (.slice dao6 (DA.length + 1) dcap6)
                      have gK1 : Goes w.heap.size wA LA (w6.setCell ⟨w.heap.size + 1, 4, none⟩ (.slice dao6 (DA.length + 1) dcap6)) (box 67 wr.heap.size [.int .u16 o.code, .slice o.dao o.data.length o.dcap] :: rowOf 5 rv3 (bvs R3) :: LB mvC M4 nv tv cv (.slice oao5 (CO.length + 1) ocap5) (.slice dao6 (DA.length + 1) dcap6) nvs TY CL (CO ++ [.int .u16 o.code]) (DA ++ [(.slice o.dao o.data.length o.dcap)]) (w.heap.size + 1) w.heap.size) := gK0
                      have gK := gK1.tail
                      have F := opt_step hio HOk.out Hopt.out
                      rw [← HR3.out, HDV.out] at F
                      have HF : Hid (R3 = encOpts ((ops.take (io + 1)).map oP) ∧ CO ++ [Value.int .u16 o.code] = (ops.take (io + 1)).map codeV ∧ DA ++ [(.slice o.dao o.data.length o.dcap)] = (ops.take (io + 1)).map dataV) := F
                      have hl1 : (CO ++ [Value.int .u16 o.code]).length ≤ io + 1 := by simp; omega
                      have hl2 : (DA ++ [Value.slice o.dao o.data.length o.dcap]).length ≤ io + 1 := by simp; omega
                      have hl3 : R3.length ≤ 204 * (io + 1) := by omega
                      clear gJ gK0 gK1 F
                      go_wp2
                      go_roundw
                      case rel => exact ⟨io + 1, R3, _, _, CO ++ [.int .u16 o.code], DA ++ [(.slice o.dao o.data.length o.dcap)], by omega, by go_num, HF, hl3, hl1, hl2, gK⟩
                      case measure => simp [intOf]; omega
                    · have t1 : decide ((200 : Int) < (o.data.length : Int)) = true := decide_eq_true (by omega)
                      obtain ⟨db, dof, hdao, _, _⟩ := HOI.out 0 (by omega)
                      have hdao0 : Hid (o.dao = some ⟨db, dof, none⟩) := hdao
                      rw [hdao] at g1 o2
                      clear hdao
                      have hmn : min o.data.length 200 = 200 := by omega
                      have HDV : Hid (dataV o = (.slice (some ⟨db, dof, none⟩) 200 o.dcap)) := by show dataV o = _; unfold dataV; rw [hmn, hdao0.out]
                      have hwd : IntKind.u16.wrap (200 : Int) = 200 := by rw [IntKind.wrap_u16]; omega
                      go_wp2_with fail
                      refine (appendU16_any w.heap.size (.slice rao (bvs RDi).length rcap) _ _ o.code _ (g1.msgAt ht5) g1.size (by rw [bvs_length]; omega) o7 o8).mono ?_
                      rintro e w1 ⟨rv1, rfl, hap⟩
                      have gA := g1.msgK ht5 o7 o8 hap
                      have hR1l : (RDi ++ be16 o.code.toNat).length ≤ RDi.length + 2 := be_len RDi _
                      generalize hR1 : RDi ++ be16 o.code.toNat = R1 at gA hR1l
                      have HR1 : Hid (R1 = RDi ++ be16 o.code.toNat) := hR1.symm
                      clear hap hR1 g1
                      go_wp2_with fail
                      refine (appendU16_any w.heap.size rv1 _ _ (200 : Int) _ (gA.msgAt ht5) gA.size (by rw [bvs_length]; omega) (by omega) (by omega)).mono ?_
                      rintro e w2 ⟨rv2, rfl, hap⟩
                      have gB := gA.msgK ht5 (x := (200 : Int)) (by omega) (by omega) hap
                      have hen : (200 : Int).toNat = min o.data.length 200 := by omega
                      have hR2l : (R1 ++ be16 (200 : Int).toNat).length ≤ R1.length + 2 := be_len R1 _
                      generalize hR2 : R1 ++ be16 (200 : Int).toNat = R2 at gB hR2l
                      have HR2 : Hid (R2 = R1 ++ be16 (min o.data.length 200)) := by rw [← hR2, hen]; rfl
                      have hsrc := src_ints (cap := o.dcap) (HOI.out.later (gW.below.trans gB.below)) (n := min o.data.length 200) (by omega)
                      rw [ovD_bvs HOZ.out, hmn, hdao0.out] at hsrc
                      have hb6 : (bvs R2).length + 200 ≤ 100000000 := by rw [bvs_length]; omega
                      clear hap hR2 gA hen
                      go_wp2_with (at_builtin; refine wpList_append_rowK _ rfl (.tmp 186) (.tmp 187) 23 23 rfl w.heap.size 5 i5 (.int .u8 0) 1 1 Ybaf.underlying23 hi5 hz50 hz51 hz52 rfl _ _ _ rfl (gB.msgAt ht5) _ _ _ rfl hsrc (max_ok hb6) (bytes_ok hb6 (by decide)) gB.size ?_)
                      intro rv3 w3 h31 h32 h33 h34 h35
                      have gC := gB.msgS ht5 (K := ovD o) rfl (by rw [ovD_length]; omega) h31 h32 h33 (by simpa using h34)
                      have hR3l : (R2 ++ ovD o).length ≤ R2.length + 200 := by have := ovD_le o; simp; omega
                      generalize hR3 : R2 ++ ovD o = R3 at gC hR3l
                      have HR3 : Hid (R3 = ((RDi ++ be16 o.code.toNat) ++ be16 (min o.data.length 200)) ++ ovD o) := by rw [← hR3, HR2.out, HR1.out]; rfl
                      have gE : Goes w.heap.size wA LA w3 (box 67 wr.heap.size [.int .u16 o.code, .slice (some ⟨db, dof, none⟩) o.data.length o.dcap] :: rowOf 5 rv3 (bvs R3) :: LB mvC M4 nv tv cv ov dv nvs TY CL CO DA (w.heap.size + 1) w.heap.size) := by
                        have := gC; rw [Htl5.out] at this; exact this
                      clear h31 h32 h33 h34 h35 hR3 gB gC hsrc
                      have n3 := gE.own.box_cell 8 rfl 3 rfl
                      have x0 := gE.own.box_cell 0 rfl 0 rfl
                      have hbc : CO.length + 1 ≤ 100000000 := by omega
                      obtain ⟨oao4, ocap4, hov⟩ := (gE.rowAt 3 rfl).form
                      subst hov
                      go_wp2_with (at_builtin; refine wpList_append_rowK _ rfl (.tmp 190) (.tmp 193) 37 37 rfl w.heap.size 59 i59 (.int .u16 0) 1 2 Ybaf.underlying37 hi59 hz590 hz591 hz592 rfl _ _ _ rfl ((gE.rowAt 3 rfl).alloc _) _ 1 [.int .u16 o.code] rfl (Src.ofSlice _ Ybaf.underlying37 ⟨w3.heap.size, 0, none⟩ 1 1 [.int .u16 o.code] rfl (news_alloc w3 [.int .u16 o.code] 59) (by intro u hu; simp at hu; subst hu; rfl)) (max_ok hbc) (bytes_ok hbc (by decide)) (by have := gE.size; simp; omega) ?_)
                      intro ov1 w5 h51 h52 h53 h54 h55
                      have gH := gE.push 3 rfl rfl h51 h52 h53 (by simpa using h54)
                      obtain ⟨oao5, ocap5, hov1⟩ := h51.form
                      clear h51 h52 h53 h54 h55 n3 x0 gE
                      subst hov1
                      have n3 := gH.own.box_cell 8 rfl 3 rfl
                      have n4 := gH.own.box_cell 8 rfl 4 rfl
                      have nf := gH.own.box_frozen 8 rfl 3 (by simp)
                      have hbd : DA.length + 1 ≤ 100000000 := by omega
                      obtain ⟨dao4, dcap4, hdv⟩ := (gH.rowAt 2 rfl).form
                      subst hdv
                      have gI := gH.setBox 8 rfl (by decide) 3 (by simp) (.slice oao5 (CO.length + 1) ocap5)
                      go_wp2_with (at_builtin; refine wpList_append_rowK _ rfl (.tmp 197) (.tmp 199) 26 26 rfl w.heap.size 23 i23 (.slice none 0 0) 1 24 Ybaf.underlying26 hi23 hz230 hz231 hz232 rfl _ _ _ rfl ((gI.rowAt 2 rfl).alloc _) _ 1 [(.slice (some ⟨db, dof, none⟩) 200 o.dcap)] rfl (Src.ofSlice _ Ybaf.underlying26 ⟨w5.heap.size, 0, none⟩ 1 1 [(.slice (some ⟨db, dof, none⟩) 200 o.dcap)] rfl (by simpa using news_alloc (w5.setCell ⟨w.heap.size + 1, 3, none⟩ (.slice oao5 (CO.length + 1) ocap5)) [(.slice (some ⟨db, dof, none⟩) 200 o.dcap)] 23) (by intro u hu; simp at hu; subst hu; rfl)) (max_ok hbd) (bytes_ok hbd (by decide)) (by have := gI.size; simp at this ⊢; omega) ?_)
                      intro dv1 w6 h61 h62 h63 h64 h65
                      have gJ := gI.push 2 rfl rfl h61 h62 (by simpa using h63) (by simpa using h64)
                      obtain ⟨dao6, dcap6, hdv1⟩ := h61.form
                      clear h61 h62 h63 h64 h65 n3 n4 nf gH gI
                      subst hdv1
                      have n4 := gJ.own.box_cell 8 rfl 4 rfl
                      have nf := gJ.own.box_frozen 8 rfl 4 (by simp)
                      have gK0 := gJ.setBox 8 rfl (by decide) 4 (by simp) (.slice dao6 (DA.length + 1) dcap6)
                      have gK1 : Goes w.heap.size wA LA (w6.setCell ⟨w.heap.size + 1, 4, none⟩ (.slice dao6 (DA.length + 1) dcap6)) (box 67 wr.heap.size [.int .u16 o.code, .slice (some ⟨db, dof, none⟩) o.data.length o.dcap] :: rowOf 5 rv3 (bvs R3) :: LB mvC M4 nv tv cv (.slice oao5 (CO.length + 1) ocap5) (.slice dao6 (DA.length + 1) dcap6) nvs TY CL (CO ++ [.int .u16 o.code]) (DA ++ [(.slice (some ⟨db, dof, none⟩) 200 o.dcap)]) (w.heap.size + 1) w.heap.size) := gK0
                      have gK := gK1.tail
                      have F := opt_step hio HOk.out Hopt.out
                      rw [← HR3.out, HDV.out] at F
                      have HF : Hid (R3 = encOpts ((ops.take (io + 1)).map oP) ∧ CO ++ [Value.int .u16 o.code] = (ops.take (io + 1)).map codeV ∧ DA ++ [(.slice (some ⟨db, dof, none⟩) 200 o.dcap)] = (ops.take (io + 1)).map dataV) := F
                      have hl1 : (CO ++ [Value.int .u16 o.code]).length ≤ io + 1 := by simp; omega
                      have hl2 : (DA ++ [Value.slice (some ⟨db, dof, none⟩) 200 o.dcap]).length ≤ io + 1 := by simp; omega
                      have hl3 : R3.length ≤ 204 * (io + 1) := by omega
                      clear gJ gK0 gK1 F
                      go_wp2
                      go_roundw
                      case rel => exact ⟨io + 1, R3, _, _, CO ++ [.int .u16 o.code], DA ++ [(.slice (some ⟨db, dof, none⟩) 200 o.dcap)], by omega, by go_num, HF, hl3, hl1, hl2, gK⟩
                      case measure => simp [intOf]; omega
                  · have hke : io = ops.length := by omega
                    subst hke
                    have Hopt' : Hid (RDi = encOpts (ops.map oP) ∧ CO = ops.map codeV ∧ DA = ops.map dataV) := by have := Hopt.out; rw [List.take_length] at this; exact this
                    obtain ⟨rao, rcap, hrv⟩ := (hGo.rowAt 0 rfl).form
                    subst hrv
                    have gI := hGo
                    clear hGo Hopt
                    obtain ⟨tl4, htl4⟩ : ∃ tl : Value → List UInt8 → List RowS, tl = fun mv M' => LB mv M' nv tv cv ov dv nvs TY CL CO DA (w.heap.size + 1) w.heap.size := ⟨_, rfl⟩
                    have ht4 : Tl 5 tl4 := by rw [htl4]; exact ⟨fun mv M => rfl, fun mv M mv' M' => rfl⟩
                    have gJ : Goes w.heap.size wA LA wr (rowOf 5 (.slice rao (bvs RDi).length rcap) (bvs RDi) :: tl4 mvC M4) := by rw [htl4]; exact gI
                    have Htl4 : Hid (tl4 = fun mv M' => LB mv M' nv tv cv ov dv nvs TY CL CO DA (w.heap.size + 1) w.heap.size) := htl4
                    have hb1 : (bvs M4).length + 9 ≤ 100000000 := by rw [bvs_length]; omega
                    have hwr : IntKind.u16.wrap ((bvs RDi).length : Int) = (bvs RDi).length := by rw [IntKind.wrap_u16, bvs_length]; omega
                    clear htl4 gI
                    go_wp2_with (at_builtin; refine wpList_append_rowK _ rfl (.tmp 203) (.tmp 204) 23 23 rfl w.heap.size 5 i5 (.int .u8 0) 1 1 Ybaf.underlying23 hi5 hz50 hz51 hz52 rfl _ _ _ rfl ((gJ.msgAt ht4).alloc _) _ 9 [.int .u8 0, .int .u8 0, .int .u8 41, .int .u8 16, .int .u8 0, .int .u8 0, .int .u8 0, .int .u8 0, .int .u8 0] rfl (Src.ofSlice _ Ybaf.underlying23 ⟨wr.heap.size, 0, none⟩ 9 9 [.int .u8 0, .int .u8 0, .int .u8 41, .int .u8 16, .int .u8 0, .int .u8 0, .int .u8 0, .int .u8 0, .int .u8 0] rfl (news_alloc wr [.int .u8 0, .int .u8 0, .int .u8 41, .int .u8 16, .int .u8 0, .int .u8 0, .int .u8 0, .int .u8 0, .int .u8 0] 5) (ints_one [0, 0, 41, 16, 0, 0, 0, 0, 0])) (max_ok hb1) (bytes_ok hb1 (by decide)) (by have := gJ.size; simp; omega) ?_)
                    intro mv1 w1 h11 h12 h13 h14 h15
                    have gA := gJ.msg ht4 (K := [0, 0, 41, 16, 0, 0, 0, 0, 0]) rfl rfl h11 h12 h13 (by simpa using h14)
                    have hM1l : (M4 ++ [0, 0, 41, 16, 0, 0, 0, 0, 0]).length ≤ M4.length + 9 := by simp
                    generalize hM1 : M4 ++ ([0, 0, 41, 16, 0, 0, 0, 0, 0] : List UInt8) = M1 at gA hM1l
                    have HM1 : Hid (M1 = M4 ++ [0, 0, 41, 16, 0, 0, 0, 0, 0]) := hM1.symm
                    clear h11 h12 h13 h14 h15 hM1 gJ
                    go_wp2_with fail
                    refine (appendU16_any w.heap.size mv1 _ _ ((bvs RDi).length : Int) _ (gA.msgAt ht4) gA.size (by rw [bvs_length]; omega) (by omega) (by rw [bvs_length]; omega)).mono ?_
                    rintro e w2 ⟨mv2, rfl, hap⟩
                    have gB := gA.msgK ht4 (by omega) (by rw [bvs_length]; omega) hap
                    have hM2l : (M1 ++ be16 ((bvs RDi).length : Int).toNat).length ≤ M1.length + 2 := be_len M1 _
                    generalize hM2 : M1 ++ be16 ((bvs RDi).length : Int).toNat = M2 at gB hM2l
                    have HM2 : Hid (M2 = M1 ++ be16 (RDi : List UInt8).length) := by rw [← hM2, bvs_length]; rfl
                    have hb2 : (bvs M2).length + (bvs RDi).length ≤ 100000000 := by rw [bvs_length, bvs_length]; omega
                    clear hap hM2 gA
                    go_wp2_with (at_builtin; refine wpList_append_rowK _ rfl (.tmp 212) (.tmp 213) 23 23 rfl w.heap.size 5 i5 (.int .u8 0) 1 1 Ybaf.underlying23 hi5 hz50 hz51 hz52 rfl _ _ _ rfl (gB.msgAt ht4) _ _ _ rfl (src_row (gB.rowAt 0 rfl)) (max_ok hb2) (bytes_ok hb2 (by decide)) gB.size ?_)
                    intro mv3 w3 h31 h32 h33 h34 h35
                    have gC := gB.msgS ht4 (K := RDi) rfl (by rw [bvs_length]) h31 h32 h33 (by simpa using h34)
                    have hM3l : (M2 ++ RDi).length ≤ M2.length + 52224 := by simp; omega
                    generalize hM3 : M2 ++ RDi = M3 at gC hM3l
                    have HM3 : Hid (M3 = ((M4 ++ [0, 0, 41, 16, 0, 0, 0, 0, 0]) ++ be16 (RDi : List UInt8).length) ++ RDi) := by rw [← hM3, HM2.out, HM1.out]; rfl
                    have gD : Goes w.heap.size wA LA w3 (LB mv3 M3 nv tv cv ov dv nvs TY CL CO DA (w.heap.size + 1) w.heap.size) := by
                      have := gC.tail; rw [Htl4.out] at this; exact this
                    have hM3b : M3.length ≤ Mi.length + 52300 * (0 + 1) := by omega
                    have HMF : Hid (M3 = Mi ++ encRs (optsR (encOpts (ops.map oP)) (0 + 1))) := by rw [HM3.out]; exact (by have := optsR_one (RD := RDi) (M := Mi) (Mi := M4) (by rw [Hopt'.out.1]; exact HM4.out); rw [Hopt'.out.1] at this ⊢; exact this)
                    have HCF : Hid (((0 + 1) = 0 → CO = [] ∧ DA = [] ∧ ov = .slice none 0 0 ∧ dv = .slice none 0 0) ∧ (0 < 0 + 1 → CO = ops.map codeV ∧ DA = ops.map dataV)) := ⟨fun h => absurd h (by omega), fun _ => Hopt'.out.2⟩
                    clear h31 h32 h33 h34 h35 hM3 gB gC
                    go_wp2
                    go_roundw
                    case rel => exact ⟨0 + 1, M3, ov, dv, CO, DA, by omega, by go_num, hM3b, HMF, HCF, gD⟩
                    case measure => simp [intOf]; omega
              · have hj1 : j = 1 := by omega
                subst hj1
                have HCc : Hid (COc = ops.map codeV ∧ DAc = ops.map dataV) := HCO.out.2 (by omega)
                have t0 : (((1 : Nat) : Int) == 0) = false := by decide
                have gI := hG4.nilRow 5
                clear hG4 HCO
                obtain ⟨tl4, htl4⟩ : ∃ tl : Value → List UInt8 → List RowS, tl = fun mv M' => LB mv M' nv tv cv ovc dvc nvs TY CL COc DAc (w.heap.size + 1) w.heap.size := ⟨_, rfl⟩
                have ht4 : Tl 5 tl4 := by rw [htl4]; exact ⟨fun mv M => rfl, fun mv M mv' M' => rfl⟩
                have gJ : Goes w.heap.size wA LA wc (rowOf 5 (.slice none 0 0) (bvs ([] : List UInt8)) :: tl4 mvC M4) := by rw [htl4]; exact gI
                have Htl4 : Hid (tl4 = fun mv M' => LB mv M' nv tv cv ovc dvc nvs TY CL COc DAc (w.heap.size + 1) w.heap.size) := htl4
                have hb1 : (bvs M4).length + 9 ≤ 100000000 := by rw [bvs_length]; omega
                clear htl4 gI
                go_wp2_with (at_builtin; refine wpList_append_rowK _ rfl (.tmp 203) (.tmp 204) 23 23 rfl w.heap.size 5 i5 (.int .u8 0) 1 1 Ybaf.underlying23 hi5 hz50 hz51 hz52 rfl _ _ _ rfl ((gJ.msgAt ht4).alloc _) _ 9 [.int .u8 0, .int .u8 0, .int .u8 41, .int .u8 16, .int .u8 0, .int .u8 0, .int .u8 0, .int .u8 0, .int .u8 0] rfl (Src.ofSlice _ Ybaf.underlying23 ⟨wc.heap.size, 0, none⟩ 9 9 [.int .u8 0, .int .u8 0, .int .u8 41, .int .u8 16, .int .u8 0, .int .u8 0, .int .u8 0, .int .u8 0, .int .u8 0] rfl (news_alloc wc [.int .u8 0, .int .u8 0, .int .u8 41, .int .u8 16, .int .u8 0, .int .u8 0, .int .u8 0, .int .u8 0, .int .u8 0] 5) (ints_one [0, 0, 41, 16, 0, 0, 0, 0, 0])) (max_ok hb1) (bytes_ok hb1 (by decide)) (by have := gJ.size; simp; omega) ?_)
                intro mv1 w1 h11 h12 h13 h14 h15
                have gA := gJ.msg ht4 (K := [0, 0, 41, 16, 0, 0, 0, 0, 0]) rfl rfl h11 h12 h13 (by simpa using h14)
                have hM1l : (M4 ++ [0, 0, 41, 16, 0, 0, 0, 0, 0]).length ≤ M4.length + 9 := by simp
                generalize hM1 : M4 ++ ([0, 0, 41, 16, 0, 0, 0, 0, 0] : List UInt8) = M1 at gA hM1l
                have HM1 : Hid (M1 = M4 ++ [0, 0, 41, 16, 0, 0, 0, 0, 0]) := hM1.symm
                clear h11 h12 h13 h14 h15 hM1 gJ
                go_wp2_with fail
                refine (appendU16_any w.heap.size mv1 _ _ (0 : Int) _ (gA.msgAt ht4) gA.size (by rw [bvs_length]; omega) (by decide) (by decide)).mono ?_
                rintro e w2 ⟨mv2, rfl, hap⟩
                have gB := gA.msgK ht4 (x := (0 : Int)) (by decide) (by decide) hap
                have hM2l : (M1 ++ be16 (0 : Int).toNat).length ≤ M1.length + 2 := be_len M1 _
                generalize hM2 : M1 ++ be16 (0 : Int).toNat = M2 at gB hM2l
                have HM2 : Hid (M2 = M1 ++ be16 (([] : List UInt8) : List UInt8).length) := by rw [← hM2]; rfl
                have hb2 : (bvs M2).length + (bvs ([] : List UInt8)).length ≤ 100000000 := by rw [bvs_length M2]; show M2.length + 0 ≤ _; omega
                clear hap hM2 gA
                go_wp2_with (at_builtin; refine wpList_append_rowK _ rfl (.tmp 212) (.tmp 213) 23 23 rfl w.heap.size 5 i5 (.int .u8 0) 1 1 Ybaf.underlying23 hi5 hz50 hz51 hz52 rfl _ _ _ rfl (gB.msgAt ht4) _ _ _ rfl (src_row (gB.rowAt 0 rfl)) (max_ok hb2) (bytes_ok hb2 (by decide)) gB.size ?_)
                intro mv3 w3 h31 h32 h33 h34 h35
                have gC := gB.msgS ht4 (K := ([] : List UInt8)) rfl (by rw [bvs_length]) h31 h32 h33 (by simpa using h34)
                have hM3l : (M2 ++ ([] : List UInt8)).length ≤ M2.length + 52224 := by simp
                generalize hM3 : M2 ++ ([] : List UInt8) = M3 at gC hM3l
                have HM3 : Hid (M3 = ((M4 ++ [0, 0, 41, 16, 0, 0, 0, 0, 0]) ++ be16 (([] : List UInt8) : List UInt8).length) ++ ([] : List UInt8)) := by rw [← hM3, HM2.out, HM1.out]; rfl
                have gD : Goes w.heap.size wA LA w3 (LB mv3 M3 nv tv cv ovc dvc nvs TY CL COc DAc (w.heap.size + 1) w.heap.size) := by
                  have := gC.tail; rw [Htl4.out] at this; exact this
                have hM3b : M3.length ≤ Mi.length + 52300 * (1 + 1) := by omega
                have HMF : Hid (M3 = Mi ++ encRs (optsR (encOpts (ops.map oP)) (1 + 1))) := by rw [HM3.out]; exact (by have := optsR_two (M := Mi) (Mi := M4) HM4.out; exact this)
                have HCF : Hid (((1 + 1) = 0 → COc = [] ∧ DAc = [] ∧ ovc = .slice none 0 0 ∧ dvc = .slice none 0 0) ∧ (0 < 1 + 1 → COc = ops.map codeV ∧ DAc = ops.map dataV)) := ⟨fun h => absurd h (by omega), fun _ => HCc.out⟩
                clear h31 h32 h33 h34 h35 hM3 gB gC
                go_wp2
                go_roundw
                case rel => exact ⟨1 + 1, M3, ovc, dvc, COc, DAc, by omega, by go_num, hM3b, HMF, HCF, gD⟩
                case measure => simp [intOf]; omega
            · have hke : j = nopt := by omega
              subst hke
              obtain ⟨nao, ncap, hnv⟩ := (hG4.rowAt 4 rfl).form
              subst hnv
              obtain ⟨tao, tcap, htv⟩ := (hG4.rowAt 3 rfl).form
              subst htv
              obtain ⟨cao, ccap, hcv⟩ := (hG4.rowAt 2 rfl).form
              subst hcv
              obtain ⟨oao9, ocap9, hovc⟩ := (hG4.rowAt 1 rfl).form
              subst hovc
              obtain ⟨dao9, dcap9, hdvc⟩ := (hG4.rowAt 0 rfl).form
              subst hdvc
              have n0 := hG4.own.box_cell 6 rfl 0 rfl
              have n1 := hG4.own.box_cell 6 rfl 1 rfl
              have n2 := hG4.own.box_cell 6 rfl 2 rfl
              have n3 := hG4.own.box_cell 6 rfl 3 rfl
              have n4 := hG4.own.box_cell 6 rfl 4 rfl
              have r0 := hG4.own.box_cell 7 rfl 0 rfl
              have r1 := hG4.own.box_cell 7 rfl 1 rfl
              have r2 := hG4.own.box_cell 7 rfl 2 rfl
              have r3 := hG4.own.box_cell 7 rfl 3 rfl
              have r4 := hG4.own.box_cell 7 rfl 4 rfl
              have f0 := hG4.own.box_frozen 7 rfl 0 (by simp [nil5])
              have f1 := hG4.own.box_frozen 7 rfl 1 (by simp [nil5])
              have f2 := hG4.own.box_frozen 7 rfl 2 (by simp [nil5])
              have f3 := hG4.own.box_frozen 7 rfl 3 (by simp [nil5])
              have f4 := hG4.own.box_frozen 7 rfl 4 (by simp [nil5])
              go_wp2_with fail
              go_region
              have gF := (((((hG4.setBox 7 rfl (by decide) 0 (by simp [nil5]) (.slice nao nvs.length ncap)).setBox 7 rfl (by decide) 1 (by simp [nil5]) (.slice tao TY.length tcap)).setBox 7 rfl (by decide) 2 (by simp [nil5]) (.slice cao CL.length ccap)).setBox 7 rfl (by decide) 3 (by simp [nil5]) (.slice oao9 COc.length ocap9)).setBox 7 rfl (by decide) 4 (by simp [nil5]) (.slice dao9 DAc.length dcap9)).drew
              obtain ⟨WE, hWE⟩ : ∃ WE, WE = (((((wc.setCell ⟨w.heap.size, 0, none⟩ (.slice nao nvs.length ncap)).setCell ⟨w.heap.size, 1, none⟩ (.slice tao TY.length tcap)).setCell ⟨w.heap.size, 2, none⟩ (.slice cao CL.length ccap)).setCell ⟨w.heap.size, 3, none⟩ (.slice oao9 COc.length ocap9)).setCell ⟨w.heap.size, 4, none⟩ (.slice dao9 DAc.length dcap9)).drew := ⟨_, rfl⟩
              rw [← hWE] at gF ⊢
              have gE : Goes w.heap.size wA LA WE (LF mvC M4 (.slice nao nvs.length ncap) (.slice tao TY.length tcap) (.slice cao CL.length ccap) (.slice oao9 COc.length ocap9) (.slice dao9 DAc.length dcap9) nvs TY CL COc DAc (w.heap.size + 1) w.heap.size) := gF
              clear n0 n1 n2 n3 n4 r0 r1 r2 r3 r4 f0 f1 f2 f3 f4 hWE gF hG4
              have m0 := gE.own.box_cell 7 rfl 0 rfl
              have m1 := gE.own.box_cell 7 rfl 1 rfl
              have m2 := gE.own.box_cell 7 rfl 2 rfl
              have m3 := gE.own.box_cell 7 rfl 3 rfl
              have m4 := gE.own.box_cell 7 rfl 4 rfl
              go_wp2_with fail
              refine bodyPost_ret (results_built (mv := mvC) rfl rfl m0 m1 m2 m3 m4) rfl ?_
              have eM : M4 = msgB fl qs ots j ops := by unfold msgB; rw [HM4.out, HMi.out, HM'.out]
              have gN : ∀ i (hi : i < nvs.length) (hi2 : i < qs.length), StrAt WE (LF mvC M4 (.slice nao nvs.length ncap) (.slice tao TY.length tcap) (.slice cao CL.length ccap) (.slice oao9 COc.length ocap9) (.slice dao9 DAc.length dcap9) nvs TY CL COc DAc (w.heap.size + 1) w.heap.size) nvs[i] (cutL 1 (labsOf qs[i])) :=
                fun i hi hi2 => (HNA.out i hi hi2).goes gE
              have gT := gW.trans gE
              rw [HTY'.out, HCL'.out] at gT gN
              exact ⟨mvC, _, _, _, _, _, M4, nvs, COc, DAc, by rw [HTY'.out, HCL'.out], eM, by omega, HNL.out, HCO, gT, gN⟩

end Go.Proofs.YbulkaxhmFmt
