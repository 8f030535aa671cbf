/-
  mapShapeUnder: behind newMAPShape.
-/
import Derived.Test.YbulkaxksFmtShape
import Derived.Test.YbulkaxksFmtSm
set_option linter.unusedVariables false
set_option linter.unusedSimpArgs false
namespace Go.Proofs
open Go.Extern.Stop Go.Stop Go.Extern Go.RowKit
namespace YbulkaxksFmt

def exOf (cn : Int) : Int := max (Int.tdiv (cn + 1) 2 - 1) 0 + 2
/-- The shape's cells, all of them. -/
def udXs (rb : Nat) (rounds : Int) (src : Nat) (off : Value) (corr : Bool) (hv ex lbv : Value) (few : Int) (fully : Bool) (fu fg lv pv fv : Value) : List Value :=
  [.pointer (some ⟨rb, 0, none⟩), .int .i64 rounds, .int .i64 (src : Int), off, .bool corr, hv, ex, lbv, .int .i64 few, .bool fully, fu, fg, lv, pv, fv]
noncomputable def code6_5 : Code := (Ybaf.f6.body.bind (findFrom 5)).getD .skip

theorem ReachL.linked {lo : Nat} {w : World} {L : List RowS} {rb : Nat} {ps : List Nat} {D : Nat → Nat} (h : ReachL lo w L rb ps D) : ∃ (ob oc : Nat) (ls : List (List Nat)), CellS w L ⟨rb, 2, none⟩ (.slice (some ⟨ob, 0, none⟩) ps.length oc) ∧ NbOk ps.length D ls ∧ NatssL lo w L (some ⟨ob, 0, none⟩) ls := by
  obtain ⟨a0, c0, a1, c1, ob, oc, nb, ls, ns, h1, h2, h3, h4, h5, h6, h7, h8, h9, h10⟩ := h
  exact ⟨ob, oc, ls, h5, h6, h7⟩

/-- What mapShapeUnder gives. -/
def UnderPost (B : Nat) (w : World) (g gs hn src : Nat) (D : Nat → Nat) (rounds few cn fu fg lev : Int) (corr fully : Bool) (e : Ending) (w' : World) : Prop :=
  ∃ (sb lb k tb tc pb pc fvc eb ec pb0 pn pc0 : Nat) (fva : Option Addr) (bs : List Nat), e = .returned (.tuple #[.pointer (some ⟨sb, 0, none⟩), .nilIface]) ∧ Below B w w' ∧
    (w'.cell? ⟨sb, 1, none⟩ = some (.int .i64 rounds) ∧ w'.cell? ⟨sb, 2, none⟩ = some (.int .i64 (src : Int)) ∧ w'.cell? ⟨sb, 4, none⟩ = some (.bool corr) ∧ w'.cell? ⟨sb, 5, none⟩ = some (.int .u8 (hn : Int)) ∧ w'.cell? ⟨sb, 6, none⟩ = some (.int .i64 (exOf cn)) ∧
      w'.cell? ⟨sb, 7, none⟩ = some (.slice (some ⟨lb, 0, none⟩) (g + 1) (g + 1)) ∧ w'.cell? ⟨sb, 8, none⟩ = some (.int .i64 few) ∧ w'.cell? ⟨sb, 9, none⟩ = some (.bool fully) ∧ w'.cell? ⟨sb, 10, none⟩ = some (.int .i64 fu) ∧ w'.cell? ⟨sb, 11, none⟩ = some (.int .i64 fg) ∧
      w'.cell? ⟨sb, 12, none⟩ = some (.slice (some ⟨tb, 0, none⟩) (k + 1) tc) ∧ w'.cell? ⟨sb, 13, none⟩ = some (.slice (some ⟨pb, 0, none⟩) (k + 1) pc) ∧ w'.cell? ⟨sb, 14, none⟩ = some (.slice fva k fvc)) ∧
    (bs.length = g + 1 ∧ bs[0]? = some 0 ∧ (∀ a, a < g → ∀ (h1 : a < bs.length) (h2 : a + 1 < bs.length), bs[a + 1] = bs[a] + D a ∧ bs[a + 1] ≤ 12 * (a + 1)) ∧ NatsAt w' 0 (some ⟨lb, 0, none⟩) bs) ∧
    (w'.cell? ⟨tb, 0, none⟩ = some (.slice (some ⟨eb, 0, none⟩) 1 ec) ∧ w'.cell? ⟨eb, 0, none⟩ = some (.int .i32 (gs : Int)) ∧ w'.cell? ⟨pb, 0, none⟩ = some (.slice (some ⟨pb0, 0, none⟩) 1 pc0) ∧ w'.cell? ⟨pb0, 0, none⟩ = some (.int .i32 (-1))) ∧
    (((k : Int) = 0 ∨ (k : Int) ≤ lev - 1) ∧ lev - 1 ≤ (k : Int))

def URel (B : Nat) (w : World) (g lo lb rb : Nat) (ps : List Nat) (D : Nat → Nat) (T : List RowS) (lvs pvs : List Value) (LS PS : List (List Int)) (ob : Nat) (ls : List (List Nat)) (a : Nat) (wr : World) : Prop :=
  ∃ bs : List Nat, bs.length = g + 1 ∧ bs[0]? = some 0 ∧ (∀ j, j < a → ∀ (h1 : j < bs.length) (h2 : j + 1 < bs.length), bs[j + 1] = bs[j] + D j ∧ bs[j + 1] ≤ 12 * (j + 1)) ∧
    Goes B w [] wr (rowOf 3 (.slice (some ⟨lb, 0, none⟩) (g + 1) (g + 1)) (ivs bs) :: T) ∧ InnerL wr (rowOf 3 (.slice (some ⟨lb, 0, none⟩) (g + 1) (g + 1)) (ivs bs) :: T) lvs LS ∧ InnerL wr (rowOf 3 (.slice (some ⟨lb, 0, none⟩) (g + 1) (g + 1)) (ivs bs) :: T) pvs PS ∧ NatssL lo wr (rowOf 3 (.slice (some ⟨lb, 0, none⟩) (g + 1) (g + 1)) (ivs bs) :: T) (some ⟨ob, 0, none⟩) ls

theorem tdiv_bound (x : Int) (h : -200 ≤ x ∧ x ≤ 200) : -100 ≤ Int.tdiv x 2 ∧ Int.tdiv x 2 ≤ 100 := by
  rw [Int.tdiv_eq_ediv]
  split
  · omega
  · simp only [Int.sign]
    omega

set_option maxRecDepth 1000000 in
set_option maxHeartbeats 2000000 in
theorem under_rest (B nb bb src hn sb rb g lo gs k : Nat) (ps : List Nat) (D : Nat → Nat) (bg cn fg fl fu q0 q1 q2 q3 rounds few lev W : Int) (corr fully : Bool) (off : Value) (w w1 : World)
    (u4 u6 u7 u8 u9 u10 u11 u12 u15 u16 u17 u18 u19 u20 u21 u22 u23 u24 u25 u26 u27 u28 u29 u30 u31 u32 u33 u34 u35 u36 u37 u38 u39 u40 u41 u42 u43 u44 u45 u46 u47 u48 u49 u50 u51 u52 u53 u54 u55 u56 u57 u58 u59 u60 u61 u62 u63 u64 u65 u66 u67 u68 u69 u70 u71 u72 u73 u74 u75 u76 u77 u78 u79 u80 u81 u82 u83 u84 u85 u86 u87 u88 u89 u90 u91 u92 u93 u94 u95 u96 u97 u98 u99 u100 u101 u102 u103 u104 u105 u106 u107 u108 u109 u110 u111 u112 u113 u114 u115 u116 u117 u118 u119 u120 u121 u122 u123 u124 u125 u126 : Value)
    (HB : Hid (B = w.heap.size)) (HG : Hid (g = ps.length)) (hg4 : g ≤ 4) (hD : Hid (∀ a, D a ≤ 12)) (b2 : -128 ≤ cn ∧ cn ≤ 127)
    (e2 : w.cell? ⟨bb, 2, none⟩ = some (.int .i64 cn)) (e4 : w.cell? ⟨bb, 4, none⟩ = some (.int .i64 fg)) (e6 : w.cell? ⟨bb, 6, none⟩ = some (.int .i64 fu))
    (hk : Hid (((k : Int) = 0 ∨ (k : Int) ≤ lev - 1) ∧ lev - 1 ≤ (k : Int))) (hk4 : k ≤ 4)
    (HC : Hid (C3Rel B w g lo rb sb ps D gs (shXs rb rounds src off corr few fully) k W w1)) :
    Code.wp Ybaf.prog code6_5 (bodyPost Ybaf.prog Ybaf.f6 (UnderPost B w g gs hn src D rounds few cn fu fg lev corr fully)) ⟨#[.pointer (some ⟨nb, 0, none⟩), .agg (bdXs bg cn fg fl fu q0 q1 q2 q3), .int .i64 (src : Int), .int .u8 (hn : Int), u4, .pointer (some ⟨bb, 0, none⟩), u6, u7, u8, u9, u10, u11, u12, .pointer (some ⟨sb, 0, none⟩), .nilIface, u15, u16, u17, u18, u19, u20, u21, u22, u23, u24, u25, u26, u27, u28, u29, u30, u31, u32, u33, u34, u35, u36, u37, u38, u39, u40, u41, u42, u43, u44, u45, u46, u47, u48, u49, u50, u51, u52, u53, u54, u55, u56, u57, u58, u59, u60, u61, u62, u63, u64, u65, u66, u67, u68, u69, u70, u71, u72, u73, u74, u75, u76, u77, u78, u79, u80, u81, u82, u83, u84, u85, u86, u87, u88, u89, u90, u91, u92, u93, u94, u95, u96, u97, u98, u99, u100, u101, u102, u103, u104, u105, u106, u107, u108, u109, u110, u111, u112, u113, u114, u115, u116, u117, u118, u119, u120, u121, u122, u123, u124, u125, u126], []⟩ w1 := by
  obtain ⟨i3, hi3, hz30, hz31, hz32⟩ := info_parts Ybaf.kinfo3
  obtain ⟨tb, tc, pb, pc, fv, lvs, pvs, fvs, LS, PS, hLl, hfl, hok, hL0, hP0, -, -, gW, hI1, hI2, hR⟩ := HC.out
  obtain ⟨fva, fvc, hfv⟩ := (gW.rowAt 2 rfl).form
  rw [hfl] at hfv
  subst hfv
  have nilS : ∀ a, Safe [] a := fun a i hi => absurd hi (Nat.not_lt_zero _)
  have V2 : CellS w1 _ ⟨bb, 2, none⟩ (.int .i64 cn) := gW.safe _ _ e2 (nilS _)
  have V4 : CellS w1 _ ⟨bb, 4, none⟩ (.int .i64 fg) := gW.safe _ _ e4 (nilS _)
  have V6 : CellS w1 _ ⟨bb, 6, none⟩ (.int .i64 fu) := gW.safe _ _ e6 (nilS _)
  have HL0 : Hid (LS[0]? = some [(gs : Int)]) := hL0
  have HP0 : Hid (PS[0]? = some [-1]) := hP0
  have HI : Hid (InnerL w1 (TL sb (shXs rb rounds src off corr few fully) (.slice (some ⟨tb, 0, none⟩) (k + 1) tc) (.slice (some ⟨pb, 0, none⟩) (k + 1) pc) (.slice fva k fvc) lvs pvs fvs) lvs LS ∧ InnerL w1 (TL sb (shXs rb rounds src off corr few fully) (.slice (some ⟨tb, 0, none⟩) (k + 1) tc) (.slice (some ⟨pb, 0, none⟩) (k + 1) pc) (.slice fva k fvc) lvs pvs fvs) pvs PS ∧ ReachL lo w1 (TL sb (shXs rb rounds src off corr few fully) (.slice (some ⟨tb, 0, none⟩) (k + 1) tc) (.slice (some ⟨pb, 0, none⟩) (k + 1) pc) (.slice fva k fvc) lvs pvs fvs) rb ps D) := ⟨hI1, hI2, hR⟩
  clear e2 e4 e6 hL0 hP0 hI1 hI2 hR hok hLl hfl HC nilS
  have gW : Goes B w [] w1 [rowOf 47 (.slice (some ⟨tb, 0, none⟩) (k + 1) tc) lvs, rowOf 47 (.slice (some ⟨pb, 0, none⟩) (k + 1) pc) pvs, rowOf 47 (.slice fva k fvc) fvs, box 45 sb (udXs rb rounds src off corr (.int .u8 0) (.int .i64 0) (.slice none 0 0) few fully (.int .i64 0) (.int .i64 0) (.slice (some ⟨tb, 0, none⟩) (k + 1) tc) (.slice (some ⟨pb, 0, none⟩) (k + 1) pc) (.slice fva k fvc))] := gW
  obtain ⟨Q, hQ⟩ : ∃ Q, Int.tdiv (cn + 1) 2 = Q := ⟨_, rfl⟩
  have hQb := tdiv_bound (cn + 1) (by omega)
  rw [hQ] at hQb
  have HEX : Hid (exOf cn = max (Q - 1) 0 + 2) := by show _ = _; unfold exOf; rw [hQ]
  have hwc : IntKind.i64.wrap (cn + 1) = cn + 1 := by rw [IntKind.wrap_i64]; omega
  have hwQ : IntKind.i64.wrap Q = Q := by rw [IntKind.wrap_i64]; omega
  have hwQ1 : IntKind.i64.wrap (Q - 1) = Q - 1 := by rw [IntKind.wrap_i64]; omega
  obtain ⟨M, hM⟩ : ∃ M, max (Q - 1) 0 = M := ⟨_, rfl⟩
  have hMb : 0 ≤ M ∧ M ≤ 200 := by omega
  have HEX : Hid (exOf cn = M + 2) := by show _ = _; rw [HEX.out, hM]
  have hwM : IntKind.i64.wrap (M + 2) = M + 2 := by rw [IntKind.wrap_i64]; omega
  conv => arg 2; whnf
  go_upto_region 7 with fail
  refine wp_region_noPanic ?_
  refine wp_region_till (by kernel_rfl) (fun _ => True) (fun W => W.cell? ⟨bb, 2, none⟩ = some (.int .i64 cn)) [] 16 rfl ?_
  have TD := (Goes.refl gW.own gW.size).drew
  have GD := gW.trans TD
  have U2 := V2.goes TD
  have U4 := V4.goes TD
  have U6 := V6.goes TD
  have HI2 : Hid _ := And.intro (HI.out.1.goes TD) (And.intro (HI.out.2.1.goes TD) (HI.out.2.2.goes TD))
  obtain ⟨wd, hwd⟩ : ∃ W, W = w1.drew := ⟨_, rfl⟩
  rw [← hwd] at GD U2 U4 U6 HI2 ⊢
  clear hwd TD gW V2 V4 V6 HI
  have hS := U2.1
  refine till_take0 0 (some 58) (v := ?va0) rfl rfl (by kernel_rfl) (by kernel_rfl) (by kernel_rfl) (fun _ _ _ h => h) (Or.inl ⟨by rfl, ?ya0⟩) hS ?ra0
  case ya0 => intro w' t1; go_simp; all_goals with_reducible rfl
  simp only [Act.put, List.setIfInBounds_toArray, List.set_cons_zero, List.set_cons_succ]
  refine till_take0 1 (some 59) (v := ?va1) rfl rfl (by kernel_rfl) (by kernel_rfl) (by kernel_rfl) (fun _ _ _ h => h) (Or.inl ⟨by rfl, ?ya1⟩) hS ?ra1
  case ya1 => intro w' t1; go_simp; all_goals with_reducible rfl
  simp only [Act.put, List.setIfInBounds_toArray, List.set_cons_zero, List.set_cons_succ]
  refine till_take0 2 (some 60) (v := ?va2) rfl rfl (by kernel_rfl) (by kernel_rfl) (by kernel_rfl) (fun _ _ _ h => h) (Or.inl ⟨by rfl, ?ya2⟩) hS ?ra2
  case ya2 => intro w' t1; go_simp; all_goals with_reducible rfl
  simp only [Act.put, List.setIfInBounds_toArray, List.set_cons_zero, List.set_cons_succ]
  refine till_take0 3 (some 61) (v := ?va3) rfl rfl (by kernel_rfl) (by kernel_rfl) (by kernel_rfl) (fun _ _ _ h => h) (Or.inl ⟨by rfl, ?ya3⟩) hS ?ra3
  case ya3 => intro w' t1; go_simp; all_goals with_reducible rfl
  simp only [Act.put, List.setIfInBounds_toArray, List.set_cons_zero, List.set_cons_succ]
  refine till_take0 4 (some 62) (v := ?va4) rfl rfl (by kernel_rfl) (by kernel_rfl) (by kernel_rfl) (fun _ _ _ h => h) (Or.inl ⟨by rfl, ?ya4⟩) hS ?ra4
  case ya4 => intro w' t1; go_simp; all_goals with_reducible rfl
  simp only [Act.put, List.setIfInBounds_toArray, List.set_cons_zero, List.set_cons_succ]
  refine till_take0 5 (some 63) (v := ?va5) rfl rfl (by kernel_rfl) (by kernel_rfl) (by kernel_rfl) (fun _ _ _ h => h) (Or.inl ⟨by rfl, ?ya5⟩) hS ?ra5
  case ya5 => intro w' t1; go_simp; all_goals with_reducible rfl
  simp only [Act.put, List.setIfInBounds_toArray, List.set_cons_zero, List.set_cons_succ]
  refine till_take0 6 (some 64) (v := ?va6) rfl rfl (by kernel_rfl) (by kernel_rfl) (by kernel_rfl) (fun _ _ _ h => h) (Or.inl ⟨by rfl, ?ya6⟩) hS ?ra6
  case ya6 => intro w' t1; go_simp; all_goals with_reducible rfl
  simp only [Act.put, List.setIfInBounds_toArray, List.set_cons_zero, List.set_cons_succ]
  refine till_take0 7 (some 65) (v := ?va7) rfl rfl (by kernel_rfl) (by kernel_rfl) (by kernel_rfl) (fun _ _ _ h => h) (Or.inl ⟨by rfl, ?ya7⟩) hS ?ra7
  case ya7 => intro w' t1; go_simp; all_goals with_reducible rfl
  simp only [Act.put, List.setIfInBounds_toArray, List.set_cons_zero, List.set_cons_succ]
  refine till_take0 8 (some 66) (v := ?va8) rfl rfl (by kernel_rfl) (by kernel_rfl) (by kernel_rfl) (fun _ _ _ h => h) (Or.inl ⟨by rfl, ?ya8⟩) hS ?ra8
  case ya8 => intro w' t1; go_simp; all_goals with_reducible rfl
  simp only [Act.put, List.setIfInBounds_toArray, List.set_cons_zero, List.set_cons_succ]
  refine till_take0 9 (some 67) (v := ?va9) rfl rfl (by kernel_rfl) (by kernel_rfl) (by kernel_rfl) (fun _ _ _ h => h) (Or.inl ⟨by rfl, ?ya9⟩) hS ?ra9
  case ya9 => intro w' t1; go_simp; all_goals with_reducible rfl
  simp only [Act.put, List.setIfInBounds_toArray, List.set_cons_zero, List.set_cons_succ]
  refine till_take0 10 (some 68) (v := ?va10) rfl rfl (by kernel_rfl) (by kernel_rfl) (by kernel_rfl) (fun _ _ _ h => h) (Or.inl ⟨by rfl, ?ya10⟩) hS ?ra10
  case ya10 => intro w' t1; go_simp; all_goals with_reducible rfl
  simp only [Act.put, List.setIfInBounds_toArray, List.set_cons_zero, List.set_cons_succ]
  refine till_take0 11 (some 69) (v := ?va11) rfl rfl (by kernel_rfl) (by kernel_rfl) (by kernel_rfl) (fun _ _ _ h => h) (Or.inl ⟨by rfl, ?ya11⟩) hS ?ra11
  case ya11 => intro w' t1; go_simp; all_goals with_reducible rfl
  simp only [Act.put, List.setIfInBounds_toArray, List.set_cons_zero, List.set_cons_succ]
  have z5 := GD.own.box_cell 3 rfl 5 rfl
  have f5 := GD.own.box_frozen 3 rfl 5 (by simp [udXs])
  have T1 := (Goes.refl GD.own GD.size).setBox 3 rfl (by decide) 5 (by simp [udXs]) (.int .u8 (hn : Int))
  refine till_one (i := 12) (by kernel_rfl) rfl rfl fun K hK => ?_
  go_simp
  refine hK _ _ (.inr id) (fun _ => (U2.goes T1).1) ?_
  clear hK K z5 f5 hS
  (try simp only [Act.put, List.setIfInBounds_toArray, List.set_cons_zero, List.set_cons_succ])
  obtain ⟨w2, hw2⟩ : ∃ W, W = wd.setCell ⟨sb, 5, none⟩ (.int .u8 (hn : Int)) := ⟨_, rfl⟩
  have T1 : Goes B wd [rowOf 47 (.slice (some ⟨tb, 0, none⟩) (k + 1) tc) lvs, rowOf 47 (.slice (some ⟨pb, 0, none⟩) (k + 1) pc) pvs, rowOf 47 (.slice fva k fvc) fvs, box 45 sb (udXs rb rounds src off corr (.int .u8 0) (.int .i64 0) (.slice none 0 0) few fully (.int .i64 0) (.int .i64 0) (.slice (some ⟨tb, 0, none⟩) (k + 1) tc) (.slice (some ⟨pb, 0, none⟩) (k + 1) pc) (.slice fva k fvc))] w2 [rowOf 47 (.slice (some ⟨tb, 0, none⟩) (k + 1) tc) lvs, rowOf 47 (.slice (some ⟨pb, 0, none⟩) (k + 1) pc) pvs, rowOf 47 (.slice fva k fvc) fvs, box 45 sb (udXs rb rounds src off corr (.int .u8 (hn : Int)) (.int .i64 0) (.slice none 0 0) few fully (.int .i64 0) (.int .i64 0) (.slice (some ⟨tb, 0, none⟩) (k + 1) tc) (.slice (some ⟨pb, 0, none⟩) (k + 1) pc) (.slice fva k fvc))] := by rw [hw2]; exact T1
  rw [← hw2]
  clear hw2
  have hS := (U2.goes T1).1
  refine till_take0 13 (some 70) (v := ?vb13) rfl rfl (by kernel_rfl) (by kernel_rfl) (by kernel_rfl) (fun _ _ _ h => h) (Or.inl ⟨by rfl, ?yb13⟩) hS ?rb13
  case yb13 => intro w' t1; go_simp; all_goals with_reducible rfl
  simp only [Act.put, List.setIfInBounds_toArray, List.set_cons_zero, List.set_cons_succ]
  refine till_take0 14 (some 71) (v := ?vb14) rfl rfl (by kernel_rfl) (by kernel_rfl) (by kernel_rfl) (fun _ _ _ h => h) (Or.inl ⟨by rfl, ?yb14⟩) hS ?rb14
  case yb14 => intro w' t1; go_simp; all_goals with_reducible rfl
  simp only [Act.put, List.setIfInBounds_toArray, List.set_cons_zero, List.set_cons_succ]
  have z6 := T1.own.box_cell 3 rfl 6 rfl
  have f6 := T1.own.box_frozen 3 rfl 6 (by simp [udXs])
  have T2 := T1.setBox 3 rfl (by decide) 6 (by simp [udXs]) (.int .i64 (M + 2))
  refine till_one (i := 15) (by kernel_rfl) rfl rfl fun K hK => ?_
  go_simp
  refine hK _ _ (.inr id) (fun _ => (U2.goes T2).1) ?_
  clear hK K z6 f6
  refine till_done (by kernel_rfl) ?_ _
  refine NoPanic.normal ?_
  obtain ⟨w3, hw3⟩ : ∃ W, W = w2.setCell ⟨sb, 6, none⟩ (.int .i64 (M + 2)) := ⟨_, rfl⟩
  have T2 : Goes B wd [rowOf 47 (.slice (some ⟨tb, 0, none⟩) (k + 1) tc) lvs, rowOf 47 (.slice (some ⟨pb, 0, none⟩) (k + 1) pc) pvs, rowOf 47 (.slice fva k fvc) fvs, box 45 sb (udXs rb rounds src off corr (.int .u8 0) (.int .i64 0) (.slice none 0 0) few fully (.int .i64 0) (.int .i64 0) (.slice (some ⟨tb, 0, none⟩) (k + 1) tc) (.slice (some ⟨pb, 0, none⟩) (k + 1) pc) (.slice fva k fvc))] w3 [rowOf 47 (.slice (some ⟨tb, 0, none⟩) (k + 1) tc) lvs, rowOf 47 (.slice (some ⟨pb, 0, none⟩) (k + 1) pc) pvs, rowOf 47 (.slice fva k fvc) fvs, box 45 sb (udXs rb rounds src off corr (.int .u8 (hn : Int)) (.int .i64 (exOf cn)) (.slice none 0 0) few fully (.int .i64 0) (.int .i64 0) (.slice (some ⟨tb, 0, none⟩) (k + 1) tc) (.slice (some ⟨pb, 0, none⟩) (k + 1) pc) (.slice fva k fvc))] := by rw [hw3, HEX.out]; exact T2
  rw [← hw3]
  have G3 := GD.trans T2
  have V4 := U4.goes T2
  have V6 := U6.goes T2
  have HI3 : Hid _ := And.intro (HI2.out.1.goes T2) (And.intro (HI2.out.2.1.goes T2) (HI2.out.2.2.goes T2))
  clear hw3 T1 T2 GD U2 U4 U6 HI2 hS hQ hwc hwQ hwQ1 hM hwM hQb hMb
  go_wp2_with fail
  refine wp_region_noPanic ?_
  refine wp_region_till (by kernel_rfl) (fun _ => True) (fun W => W.cell? ⟨bb, 6, none⟩ = some (.int .i64 fu) ∧ W.cell? ⟨bb, 4, none⟩ = some (.int .i64 fg)) [] 12 rfl ?_
  have TD := (Goes.refl G3.own G3.size).drew
  have GD := G3.trans TD
  have U4 := V4.goes TD
  have U6 := V6.goes TD
  have HI4 : Hid _ := And.intro (HI3.out.1.goes TD) (And.intro (HI3.out.2.1.goes TD) (HI3.out.2.2.goes TD))
  obtain ⟨we, hwe⟩ : ∃ W, W = w3.drew := ⟨_, rfl⟩
  rw [← hwe] at GD U4 U6 HI4 ⊢
  clear hwe TD G3 V4 V6 HI3
  have hS := And.intro U6.1 U4.1
  refine till_take0 0 (some 72) (v := ?vc0) rfl rfl (by kernel_rfl) (by kernel_rfl) (by kernel_rfl) (fun _ _ _ h => h) (Or.inl ⟨by rfl, ?yc0⟩) hS ?rc0
  case yc0 => intro w' ⟨t1, t2⟩; go_simp; all_goals with_reducible rfl
  simp only [Act.put, List.setIfInBounds_toArray, List.set_cons_zero, List.set_cons_succ]
  refine till_take0 1 (some 73) (v := ?vc1) rfl rfl (by kernel_rfl) (by kernel_rfl) (by kernel_rfl) (fun _ _ _ h => h) (Or.inl ⟨by rfl, ?yc1⟩) hS ?rc1
  case yc1 => intro w' ⟨t1, t2⟩; go_simp; all_goals with_reducible rfl
  simp only [Act.put, List.setIfInBounds_toArray, List.set_cons_zero, List.set_cons_succ]
  refine till_take0 2 (some 74) (v := ?vc2) rfl rfl (by kernel_rfl) (by kernel_rfl) (by kernel_rfl) (fun _ _ _ h => h) (Or.inl ⟨by rfl, ?yc2⟩) hS ?rc2
  case yc2 => intro w' ⟨t1, t2⟩; go_simp; all_goals with_reducible rfl
  simp only [Act.put, List.setIfInBounds_toArray, List.set_cons_zero, List.set_cons_succ]
  refine till_take0 3 (some 75) (v := ?vc3) rfl rfl (by kernel_rfl) (by kernel_rfl) (by kernel_rfl) (fun _ _ _ h => h) (Or.inl ⟨by rfl, ?yc3⟩) hS ?rc3
  case yc3 => intro w' ⟨t1, t2⟩; go_simp; all_goals with_reducible rfl
  simp only [Act.put, List.setIfInBounds_toArray, List.set_cons_zero, List.set_cons_succ]
  refine till_take0 4 (some 76) (v := ?vc4) rfl rfl (by kernel_rfl) (by kernel_rfl) (by kernel_rfl) (fun _ _ _ h => h) (Or.inl ⟨by rfl, ?yc4⟩) hS ?rc4
  case yc4 => intro w' ⟨t1, t2⟩; go_simp; all_goals with_reducible rfl
  simp only [Act.put, List.setIfInBounds_toArray, List.set_cons_zero, List.set_cons_succ]
  refine till_take0 5 (some 77) (v := ?vc5) rfl rfl (by kernel_rfl) (by kernel_rfl) (by kernel_rfl) (fun _ _ _ h => h) (Or.inl ⟨by rfl, ?yc5⟩) hS ?rc5
  case yc5 => intro w' ⟨t1, t2⟩; go_simp; all_goals with_reducible rfl
  simp only [Act.put, List.setIfInBounds_toArray, List.set_cons_zero, List.set_cons_succ]
  refine till_take0 6 (some 78) (v := ?vc6) rfl rfl (by kernel_rfl) (by kernel_rfl) (by kernel_rfl) (fun _ _ _ h => h) (Or.inl ⟨by rfl, ?yc6⟩) hS ?rc6
  case yc6 => intro w' ⟨t1, t2⟩; go_simp; all_goals with_reducible rfl
  simp only [Act.put, List.setIfInBounds_toArray, List.set_cons_zero, List.set_cons_succ]
  refine till_take0 7 (some 79) (v := ?vc7) rfl rfl (by kernel_rfl) (by kernel_rfl) (by kernel_rfl) (fun _ _ _ h => h) (Or.inl ⟨by rfl, ?yc7⟩) hS ?rc7
  case yc7 => intro w' ⟨t1, t2⟩; go_simp; all_goals with_reducible rfl
  simp only [Act.put, List.setIfInBounds_toArray, List.set_cons_zero, List.set_cons_succ]
  have z5 := GD.own.box_cell 3 rfl 10 rfl
  have f5 := GD.own.box_frozen 3 rfl 10 (by simp [udXs])
  have T1 := (Goes.refl GD.own GD.size).setBox 3 rfl (by decide) 10 (by simp [udXs]) (.int .i64 fu)
  refine till_one (i := 8) (by kernel_rfl) rfl rfl fun K hK => ?_
  go_simp
  refine hK _ _ (.inr id) (fun _ => ⟨(U6.goes T1).1, (U4.goes T1).1⟩) ?_
  clear hK K z5 f5 hS
  (try simp only [Act.put, List.setIfInBounds_toArray, List.set_cons_zero, List.set_cons_succ])
  obtain ⟨w4, hw4⟩ : ∃ W, W = we.setCell ⟨sb, 10, none⟩ (.int .i64 fu) := ⟨_, rfl⟩
  have T1 : Goes B we [rowOf 47 (.slice (some ⟨tb, 0, none⟩) (k + 1) tc) lvs, rowOf 47 (.slice (some ⟨pb, 0, none⟩) (k + 1) pc) pvs, rowOf 47 (.slice fva k fvc) fvs, box 45 sb (udXs rb rounds src off corr (.int .u8 (hn : Int)) (.int .i64 (exOf cn)) (.slice none 0 0) few fully (.int .i64 0) (.int .i64 0) (.slice (some ⟨tb, 0, none⟩) (k + 1) tc) (.slice (some ⟨pb, 0, none⟩) (k + 1) pc) (.slice fva k fvc))] w4 [rowOf 47 (.slice (some ⟨tb, 0, none⟩) (k + 1) tc) lvs, rowOf 47 (.slice (some ⟨pb, 0, none⟩) (k + 1) pc) pvs, rowOf 47 (.slice fva k fvc) fvs, box 45 sb (udXs rb rounds src off corr (.int .u8 (hn : Int)) (.int .i64 (exOf cn)) (.slice none 0 0) few fully (.int .i64 fu) (.int .i64 0) (.slice (some ⟨tb, 0, none⟩) (k + 1) tc) (.slice (some ⟨pb, 0, none⟩) (k + 1) pc) (.slice fva k fvc))] := by rw [hw4]; exact T1
  rw [← hw4]
  clear hw4
  have hS := And.intro (U6.goes T1).1 (U4.goes T1).1
  refine till_take0 9 (some 80) (v := ?vd9) rfl rfl (by kernel_rfl) (by kernel_rfl) (by kernel_rfl) (fun _ _ _ h => h) (Or.inl ⟨by rfl, ?yd9⟩) hS ?rd9
  case yd9 => intro w' ⟨t1, t2⟩; go_simp; all_goals with_reducible rfl
  simp only [Act.put, List.setIfInBounds_toArray, List.set_cons_zero, List.set_cons_succ]
  refine till_take0 10 (some 81) (v := ?vd10) rfl rfl (by kernel_rfl) (by kernel_rfl) (by kernel_rfl) (fun _ _ _ h => h) (Or.inl ⟨by rfl, ?yd10⟩) hS ?rd10
  case yd10 => intro w' ⟨t1, t2⟩; go_simp; all_goals with_reducible rfl
  simp only [Act.put, List.setIfInBounds_toArray, List.set_cons_zero, List.set_cons_succ]
  have z6 := T1.own.box_cell 3 rfl 11 rfl
  have f6 := T1.own.box_frozen 3 rfl 11 (by simp [udXs])
  have T2 := T1.setBox 3 rfl (by decide) 11 (by simp [udXs]) (.int .i64 fg)
  refine till_one (i := 11) (by kernel_rfl) rfl rfl fun K hK => ?_
  go_simp
  refine hK _ _ (.inr id) (fun _ => ⟨(U6.goes T2).1, (U4.goes T2).1⟩) ?_
  clear hK K z6 f6
  refine till_done (by kernel_rfl) ?_ _
  refine NoPanic.normal ?_
  obtain ⟨w5, hw5⟩ : ∃ W, W = w4.setCell ⟨sb, 11, none⟩ (.int .i64 fg) := ⟨_, rfl⟩
  have T2 : Goes B we [rowOf 47 (.slice (some ⟨tb, 0, none⟩) (k + 1) tc) lvs, rowOf 47 (.slice (some ⟨pb, 0, none⟩) (k + 1) pc) pvs, rowOf 47 (.slice fva k fvc) fvs, box 45 sb (udXs rb rounds src off corr (.int .u8 (hn : Int)) (.int .i64 (exOf cn)) (.slice none 0 0) few fully (.int .i64 0) (.int .i64 0) (.slice (some ⟨tb, 0, none⟩) (k + 1) tc) (.slice (some ⟨pb, 0, none⟩) (k + 1) pc) (.slice fva k fvc))] w5 [rowOf 47 (.slice (some ⟨tb, 0, none⟩) (k + 1) tc) lvs, rowOf 47 (.slice (some ⟨pb, 0, none⟩) (k + 1) pc) pvs, rowOf 47 (.slice fva k fvc) fvs, box 45 sb (udXs rb rounds src off corr (.int .u8 (hn : Int)) (.int .i64 (exOf cn)) (.slice none 0 0) few fully (.int .i64 fu) (.int .i64 fg) (.slice (some ⟨tb, 0, none⟩) (k + 1) tc) (.slice (some ⟨pb, 0, none⟩) (k + 1) pc) (.slice fva k fvc))] := by rw [hw5]; exact T2
  rw [← hw5]
  have G5 := GD.trans T2
  have HI5 : Hid _ := And.intro (HI4.out.1.goes T2) (And.intro (HI4.out.2.1.goes T2) (HI4.out.2.2.goes T2))
  clear hw5 T1 T2 GD U4 U6 HI4 hS
  obtain ⟨ob, oc, ls, r2, hok, hns⟩ := HI5.out.2.2.linked
  rw [← HG.out] at r2 hok
  have HOK : Hid (NbOk g D ls) := hok
  have y0 : w5.cell? ⟨sb, 0, none⟩ = some (.pointer (some ⟨rb, 0, none⟩)) := G5.own.box_cell 3 rfl 0 rfl
  have y2 := r2.1
  have hb3 : i3.bytes * (g + 1) ≤ 281474976710656 := by rw [hz32]; omega
  have hgm : g + 1 ≤ maxLen := by unfold maxLen; omega
  have hwg : IntKind.i64.wrap ((g : Int) + 1) = (g : Int) + 1 := by rw [IntKind.wrap_i64]; omega
  have HI6 : Hid (InnerL w5 [rowOf 47 (.slice (some ⟨tb, 0, none⟩) (k + 1) tc) lvs, rowOf 47 (.slice (some ⟨pb, 0, none⟩) (k + 1) pc) pvs, rowOf 47 (.slice fva k fvc) fvs, box 45 sb (udXs rb rounds src off corr (.int .u8 (hn : Int)) (.int .i64 (exOf cn)) (.slice none 0 0) few fully (.int .i64 fu) (.int .i64 fg) (.slice (some ⟨tb, 0, none⟩) (k + 1) tc) (.slice (some ⟨pb, 0, none⟩) (k + 1) pc) (.slice fva k fvc))] lvs LS ∧ InnerL w5 [rowOf 47 (.slice (some ⟨tb, 0, none⟩) (k + 1) tc) lvs, rowOf 47 (.slice (some ⟨pb, 0, none⟩) (k + 1) pc) pvs, rowOf 47 (.slice fva k fvc) fvs, box 45 sb (udXs rb rounds src off corr (.int .u8 (hn : Int)) (.int .i64 (exOf cn)) (.slice none 0 0) few fully (.int .i64 fu) (.int .i64 fg) (.slice (some ⟨tb, 0, none⟩) (k + 1) tc) (.slice (some ⟨pb, 0, none⟩) (k + 1) pc) (.slice fva k fvc))] pvs PS ∧ NatssL lo w5 [rowOf 47 (.slice (some ⟨tb, 0, none⟩) (k + 1) tc) lvs, rowOf 47 (.slice (some ⟨pb, 0, none⟩) (k + 1) pc) pvs, rowOf 47 (.slice fva k fvc) fvs, box 45 sb (udXs rb rounds src off corr (.int .u8 (hn : Int)) (.int .i64 (exOf cn)) (.slice none 0 0) few fully (.int .i64 fu) (.int .i64 fg) (.slice (some ⟨tb, 0, none⟩) (k + 1) tc) (.slice (some ⟨pb, 0, none⟩) (k + 1) pc) (.slice fva k fvc))] (some ⟨ob, 0, none⟩) ls ∧ CellS w5 [rowOf 47 (.slice (some ⟨tb, 0, none⟩) (k + 1) tc) lvs, rowOf 47 (.slice (some ⟨pb, 0, none⟩) (k + 1) pc) pvs, rowOf 47 (.slice fva k fvc) fvs, box 45 sb (udXs rb rounds src off corr (.int .u8 (hn : Int)) (.int .i64 (exOf cn)) (.slice none 0 0) few fully (.int .i64 fu) (.int .i64 fg) (.slice (some ⟨tb, 0, none⟩) (k + 1) tc) (.slice (some ⟨pb, 0, none⟩) (k + 1) pc) (.slice fva k fvc))] ⟨rb, 2, none⟩ (.slice (some ⟨ob, 0, none⟩) g oc)) := ⟨HI5.out.1, HI5.out.2.1, hns, r2⟩
  clear hok hns r2 HI5
  go_upto_region 10 with (at_make; refine wpList_make_full _ rfl (.tmp 91) (.tmp 91) 27 rfl B 3 i3 (.int .i64 0) 1 Ybaf.underlying27 hi3 hz30 hz31 .i64 .i64 _ _ (g + 1) rfl rfl (by simp) (by simp) hb3 hgm G5.size ?_; intro w6 hown hgrow; rw [made_zero] at hown; obtain ⟨lb, hlb⟩ : ∃ x, x = w5.heap.size := ⟨_, rfl⟩; have T6 := (Goes.refl G5.own G5.size).cons (r := rowOf 3 (.slice (some ⟨lb, 0, none⟩) (g + 1) (g + 1)) (List.replicate (g + 1) (.int .i64 0))) (by rw [hlb]; unfold RowS.at rowOf; simpa using RowM.of_owns hown) hgrow (fun k hk => by simp [rowOf, Value.ownBlock] at hk; omega); have z7 := T6.own.box_cell 4 rfl 7 rfl; have f7 := T6.own.box_frozen 4 rfl 7 (by simp [udXs]); have T7 := T6.setBox 4 rfl (by decide) 7 (by simp [udXs]) (.slice (some ⟨lb, 0, none⟩) (g + 1) (g + 1)); rw [← hlb]; clear hlb hown hgrow)
  obtain ⟨w7, hw7⟩ : ∃ W, W = w6.setCell ⟨sb, 7, none⟩ (.slice (some ⟨lb, 0, none⟩) (g + 1) (g + 1)) := ⟨_, rfl⟩
  have e0 : ivs (List.replicate (g + 1) 0) = List.replicate (g + 1) (.int .i64 0) := by simp [ivs, iv]
  have T8 : Goes B w5 [rowOf 47 (.slice (some ⟨tb, 0, none⟩) (k + 1) tc) lvs, rowOf 47 (.slice (some ⟨pb, 0, none⟩) (k + 1) pc) pvs, rowOf 47 (.slice fva k fvc) fvs, box 45 sb (udXs rb rounds src off corr (.int .u8 (hn : Int)) (.int .i64 (exOf cn)) (.slice none 0 0) few fully (.int .i64 fu) (.int .i64 fg) (.slice (some ⟨tb, 0, none⟩) (k + 1) tc) (.slice (some ⟨pb, 0, none⟩) (k + 1) pc) (.slice fva k fvc))] w7 (rowOf 3 (.slice (some ⟨lb, 0, none⟩) (g + 1) (g + 1)) (ivs (List.replicate (g + 1) 0)) :: [rowOf 47 (.slice (some ⟨tb, 0, none⟩) (k + 1) tc) lvs, rowOf 47 (.slice (some ⟨pb, 0, none⟩) (k + 1) pc) pvs, rowOf 47 (.slice fva k fvc) fvs, box 45 sb (udXs rb rounds src off corr (.int .u8 (hn : Int)) (.int .i64 (exOf cn)) (.slice (some ⟨lb, 0, none⟩) (g + 1) (g + 1)) few fully (.int .i64 fu) (.int .i64 fg) (.slice (some ⟨tb, 0, none⟩) (k + 1) tc) (.slice (some ⟨pb, 0, none⟩) (k + 1) pc) (.slice fva k fvc))]) := by rw [hw7, e0]; exact T7
  rw [← hw7]
  have R0 : Hid (URel B w g lo lb rb ps D [rowOf 47 (.slice (some ⟨tb, 0, none⟩) (k + 1) tc) lvs, rowOf 47 (.slice (some ⟨pb, 0, none⟩) (k + 1) pc) pvs, rowOf 47 (.slice fva k fvc) fvs, box 45 sb (udXs rb rounds src off corr (.int .u8 (hn : Int)) (.int .i64 (exOf cn)) (.slice (some ⟨lb, 0, none⟩) (g + 1) (g + 1)) few fully (.int .i64 fu) (.int .i64 fg) (.slice (some ⟨tb, 0, none⟩) (k + 1) tc) (.slice (some ⟨pb, 0, none⟩) (k + 1) pc) (.slice fva k fvc))] lvs pvs LS PS ob ls 0 w7) := ⟨List.replicate (g + 1) 0, by simp, by simp, fun j hj => absurd hj (Nat.not_lt_zero _), G5.trans T8, HI6.out.1.goes T8, HI6.out.2.1.goes T8, HI6.out.2.2.1.goes T8⟩
  have y0 : w7.cell? ⟨sb, 0, none⟩ = some (.pointer (some ⟨rb, 0, none⟩)) := T8.own.box_cell 4 rfl 0 rfl
  have y2 := (HI6.out.2.2.2.goes T8).1
  clear hw7 e0 T6 T7 T8 z7 f7 G5 HI6
  go_wp2_with fail
  go_loopw [103] (fun a wr => ∃ n : Nat, n ≤ g ∧ a = .int .i64 (n : Int) ∧ Hid (URel B w g lo lb rb ps D [rowOf 47 (.slice (some ⟨tb, 0, none⟩) (k + 1) tc) lvs, rowOf 47 (.slice (some ⟨pb, 0, none⟩) (k + 1) pc) pvs, rowOf 47 (.slice fva k fvc) fvs, box 45 sb (udXs rb rounds src off corr (.int .u8 (hn : Int)) (.int .i64 (exOf cn)) (.slice (some ⟨lb, 0, none⟩) (g + 1) (g + 1)) few fully (.int .i64 fu) (.int .i64 fg) (.slice (some ⟨tb, 0, none⟩) (k + 1) tc) (.slice (some ⟨pb, 0, none⟩) (k + 1) pc) (.slice fva k fvc))] lvs pvs LS PS ob ls n wr)) (fun a _ => g - (intOf a).toNat)
  case atStart => exact ⟨0, Nat.zero_le _, rfl, R0⟩
  case round =>
    clear R0 y0 y2
    obtain ⟨n, hng, rfl, HU⟩ := hrel
    by_cases hlt : n < g
    · have hni : (n : Int) < (g : Int) := by omega
      obtain ⟨bs, hbl, hb0, hbs, gX, hJ1, hJ2, hNs⟩ := HU.out
      have hnl : n < ls.length := by rw [HOK.out.1]; exact hlt
      obtain ⟨ob', ao, acap, hob, -, cN, -, -, -, -, -⟩ := hNs n hnl
      injection hob with hob
      injection hob with hob _ _
      subst hob
      obtain ⟨dn, hdn⟩ : ∃ d, d = ls[n].length := ⟨_, rfl⟩
      rw [← hdn] at cN
      have HDN : Hid (dn = D n) := by show _ = _; rw [hdn]; exact HOK.out.2.2 n hnl
      have hdn12 : dn ≤ 12 := by rw [HDN.out]; exact hD.out n
      obtain ⟨x, hx⟩ : ∃ x, x = bs[n]'(by omega) := ⟨_, rfl⟩
      have hxb : x ≤ 12 * n := by
        rw [hx]
        rcases Nat.eq_zero_or_pos n with h0 | h0
        · subst h0
          rw [List.getElem?_eq_getElem (show 0 < bs.length by omega)] at hb0
          injection hb0 with hb0
          omega
        · have := (hbs (n - 1) (by omega) (by omega) (by omega)).2
          simp only [Nat.sub_add_cancel h0] at this
          exact this
      have exx : (ivs bs)[n]? = some (.int .i64 (x : Int)) := by rw [hx]; simp [ivs, List.getElem?_eq_getElem (show n < bs.length by omega)]; rfl
      have cx := (gX.cellAt 0 (e := 3) (g := lb) (n := g + 1) (cap := g + 1) (xs := ivs bs) rfl n exx).1
      obtain ⟨y1, hy1⟩ : ∃ v, (ivs bs)[n + 1]? = some v := ⟨_, List.getElem?_eq_getElem (show n + 1 < (ivs bs).length by rw [ivs_length]; omega)⟩
      have HX : Hid (bs[n]? = some x) := by show _ = _; rw [hx]; exact List.getElem?_eq_getElem _
      have HBS : Hid (bs.length = g + 1 ∧ bs[0]? = some 0 ∧ (∀ j, j < n → ∀ (h1 : j < bs.length) (h2 : j + 1 < bs.length), bs[j + 1] = bs[j] + D j ∧ bs[j + 1] ≤ 12 * (j + 1))) := ⟨hbl, hb0, hbs⟩
      have HJ : Hid (InnerL wr (rowOf 3 (.slice (some ⟨lb, 0, none⟩) (g + 1) (g + 1)) (ivs bs) :: [rowOf 47 (.slice (some ⟨tb, 0, none⟩) (k + 1) tc) lvs, rowOf 47 (.slice (some ⟨pb, 0, none⟩) (k + 1) pc) pvs, rowOf 47 (.slice fva k fvc) fvs, box 45 sb (udXs rb rounds src off corr (.int .u8 (hn : Int)) (.int .i64 (exOf cn)) (.slice (some ⟨lb, 0, none⟩) (g + 1) (g + 1)) few fully (.int .i64 fu) (.int .i64 fg) (.slice (some ⟨tb, 0, none⟩) (k + 1) tc) (.slice (some ⟨pb, 0, none⟩) (k + 1) pc) (.slice fva k fvc))]) lvs LS ∧ InnerL wr (rowOf 3 (.slice (some ⟨lb, 0, none⟩) (g + 1) (g + 1)) (ivs bs) :: [rowOf 47 (.slice (some ⟨tb, 0, none⟩) (k + 1) tc) lvs, rowOf 47 (.slice (some ⟨pb, 0, none⟩) (k + 1) pc) pvs, rowOf 47 (.slice fva k fvc) fvs, box 45 sb (udXs rb rounds src off corr (.int .u8 (hn : Int)) (.int .i64 (exOf cn)) (.slice (some ⟨lb, 0, none⟩) (g + 1) (g + 1)) few fully (.int .i64 fu) (.int .i64 fg) (.slice (some ⟨tb, 0, none⟩) (k + 1) tc) (.slice (some ⟨pb, 0, none⟩) (k + 1) pc) (.slice fva k fvc))]) pvs PS ∧ NatssL lo wr (rowOf 3 (.slice (some ⟨lb, 0, none⟩) (g + 1) (g + 1)) (ivs bs) :: [rowOf 47 (.slice (some ⟨tb, 0, none⟩) (k + 1) tc) lvs, rowOf 47 (.slice (some ⟨pb, 0, none⟩) (k + 1) pc) pvs, rowOf 47 (.slice fva k fvc) fvs, box 45 sb (udXs rb rounds src off corr (.int .u8 (hn : Int)) (.int .i64 (exOf cn)) (.slice (some ⟨lb, 0, none⟩) (g + 1) (g + 1)) few fully (.int .i64 fu) (.int .i64 fg) (.slice (some ⟨tb, 0, none⟩) (k + 1) tc) (.slice (some ⟨pb, 0, none⟩) (k + 1) pc) (.slice fva k fvc))]) (some ⟨ob, 0, none⟩) ls) := ⟨hJ1, hJ2, hNs⟩
      have hw1 : IntKind.i64.wrap ((n : Int) + 1) = (((n + 1 : Nat)) : Int) := by rw [IntKind.wrap_i64]; omega
      have e0i : 0 ≤ (n : Int) + 1 := by omega
      have e1i : (n : Int) + 1 < (g : Int) + 1 := by omega
      have e2i : (n : Int) < (g : Int) + 1 := by omega
      have hwx : IntKind.i64.wrap ((x : Int) + (dn : Int)) = (x : Int) + (dn : Int) := by rw [IntKind.wrap_i64]; omega
      clear hx hdn hJ1 hJ2 hNs exx HU hbl hb0 hbs
      go_wp2_with fail
      refine wp_region_noPanic ?_
      refine wp_region_till (by kernel_rfl) (fun W => W.cell? ⟨sb, 7, none⟩ = some (.slice (some ⟨lb, 0, none⟩) (g + 1) (g + 1)) ∧ W.cell? ⟨lb, n, none⟩ = some (.int .i64 (x : Int))) (fun _ => True) [17] 18 rfl ?_
      have TD := (Goes.refl gX.own gX.size).drew
      have GD := gX.trans TD
      have HJD : Hid _ := And.intro (HJ.out.1.goes TD) (And.intro (HJ.out.2.1.goes TD) (HJ.out.2.2.goes TD))
      have hS : wr.drew.cell? ⟨sb, 7, none⟩ = some (.slice (some ⟨lb, 0, none⟩) (g + 1) (g + 1)) ∧ wr.drew.cell? ⟨lb, n, none⟩ = some (.int .i64 (x : Int)) := ⟨GD.own.box_cell 4 rfl 7 rfl, cx⟩
      obtain ⟨wf, hwf⟩ : ∃ W, W = wr.drew := ⟨_, rfl⟩
      rw [← hwf] at GD HJD hS ⊢
      clear hwf TD gX HJ cx
      refine till_take0 0 (some 108) (v := ?ve0) rfl rfl (by kernel_rfl) (by kernel_rfl) (by kernel_rfl) (fun _ _ _ h => h) (Or.inl ⟨by rfl, ?ye0⟩) trivial ?re0
      case ye0 => intro w' _; go_simp; all_goals with_reducible rfl
      simp only [Act.put, List.setIfInBounds_toArray, List.set_cons_zero, List.set_cons_succ]
      refine till_take0 1 (some 109) (v := ?ve1) rfl rfl (by kernel_rfl) (by kernel_rfl) (by kernel_rfl) (fun _ _ _ h => h) (Or.inl ⟨by rfl, ?ye1⟩) trivial ?re1
      case ye1 => intro w' _; go_simp; all_goals with_reducible rfl
      simp only [Act.put, List.setIfInBounds_toArray, List.set_cons_zero, List.set_cons_succ]
      refine till_take0 2 (some 110) (v := ?ve2) rfl rfl (by kernel_rfl) (by kernel_rfl) (by kernel_rfl) (fun _ _ _ h => h) (Or.inl ⟨by rfl, ?ye2⟩) trivial ?re2
      case ye2 => intro w' _; go_simp; all_goals with_reducible rfl
      simp only [Act.put, List.setIfInBounds_toArray, List.set_cons_zero, List.set_cons_succ]
      refine till_take 3 (some 111) (v := ?ve3) rfl rfl (by kernel_rfl) (by kernel_rfl) (by kernel_rfl) (by kernel_rfl) (fun _ _ _ h => h) (Or.inl ⟨by rfl, ?ye3⟩) hS ?re3
      case ye3 => intro w' ⟨t1, t2⟩; go_simp; all_goals with_reducible rfl
      simp only [Act.put, List.setIfInBounds_toArray, List.set_cons_zero, List.set_cons_succ]
      refine till_take0 4 (some 112) (v := ?ve4) rfl rfl (by kernel_rfl) (by kernel_rfl) (by kernel_rfl) (fun _ _ _ h => h) (Or.inl ⟨by rfl, ?ye4⟩) trivial ?re4
      case ye4 => intro w' _; go_simp; all_goals with_reducible rfl
      simp only [Act.put, List.setIfInBounds_toArray, List.set_cons_zero, List.set_cons_succ]
      refine till_take0 5 (some 113) (v := ?ve5) rfl rfl (by kernel_rfl) (by kernel_rfl) (by kernel_rfl) (fun _ _ _ h => h) (Or.inl ⟨by rfl, ?ye5⟩) trivial ?re5
      case ye5 => intro w' _; go_simp; all_goals with_reducible rfl
      simp only [Act.put, List.setIfInBounds_toArray, List.set_cons_zero, List.set_cons_succ]
      refine till_take0 6 (some 114) (v := ?ve6) rfl rfl (by kernel_rfl) (by kernel_rfl) (by kernel_rfl) (fun _ _ _ h => h) (Or.inl ⟨by rfl, ?ye6⟩) trivial ?re6
      case ye6 => intro w' _; go_simp; all_goals with_reducible rfl
      simp only [Act.put, List.setIfInBounds_toArray, List.set_cons_zero, List.set_cons_succ]
      refine till_take0 7 (some 115) (v := ?ve7) rfl rfl (by kernel_rfl) (by kernel_rfl) (by kernel_rfl) (fun _ _ _ h => h) (Or.inl ⟨by rfl, ?ye7⟩) trivial ?re7
      case ye7 => intro w' _; go_simp; all_goals with_reducible rfl
      simp only [Act.put, List.setIfInBounds_toArray, List.set_cons_zero, List.set_cons_succ]
      refine till_take0 8 (some 116) (v := ?ve8) rfl rfl (by kernel_rfl) (by kernel_rfl) (by kernel_rfl) (fun _ _ _ h => h) (Or.inl ⟨by rfl, ?ye8⟩) trivial ?re8
      case ye8 => intro w' _; go_simp; all_goals with_reducible rfl
      simp only [Act.put, List.setIfInBounds_toArray, List.set_cons_zero, List.set_cons_succ]
      refine till_take 9 (some 117) (v := ?ve9) rfl rfl (by kernel_rfl) (by kernel_rfl) (by kernel_rfl) (by kernel_rfl) (fun _ _ _ h => h) (Or.inl ⟨by rfl, ?ye9⟩) hS ?re9
      case ye9 => intro w' ⟨t1, t2⟩; go_simp; all_goals with_reducible rfl
      simp only [Act.put, List.setIfInBounds_toArray, List.set_cons_zero, List.set_cons_succ]
      refine till_take0 10 (some 118) (v := ?ve10) rfl rfl (by kernel_rfl) (by kernel_rfl) (by kernel_rfl) (fun _ _ _ h => h) (Or.inl ⟨by rfl, ?ye10⟩) trivial ?re10
      case ye10 => intro w' _; go_simp; all_goals with_reducible rfl
      simp only [Act.put, List.setIfInBounds_toArray, List.set_cons_zero, List.set_cons_succ]
      refine till_take0 11 (some 119) (v := ?ve11) rfl rfl (by kernel_rfl) (by kernel_rfl) (by kernel_rfl) (fun _ _ _ h => h) (Or.inl ⟨by rfl, ?ye11⟩) trivial ?re11
      case ye11 => intro w' _; go_simp; all_goals with_reducible rfl
      simp only [Act.put, List.setIfInBounds_toArray, List.set_cons_zero, List.set_cons_succ]
      refine till_take 12 (some 120) (v := ?ve12) rfl rfl (by kernel_rfl) (by kernel_rfl) (by kernel_rfl) (by kernel_rfl) (fun _ _ _ h => h) (Or.inl ⟨by rfl, ?ye12⟩) hS ?re12
      case ye12 => intro w' ⟨t1, t2⟩; go_simp; all_goals with_reducible rfl
      simp only [Act.put, List.setIfInBounds_toArray, List.set_cons_zero, List.set_cons_succ]
      refine till_take0 13 (some 121) (v := ?ve13) rfl rfl (by kernel_rfl) (by kernel_rfl) (by kernel_rfl) (fun _ _ _ h => h) (Or.inl ⟨by rfl, ?ye13⟩) trivial ?re13
      case ye13 => intro w' _; go_simp; all_goals with_reducible rfl
      simp only [Act.put, List.setIfInBounds_toArray, List.set_cons_zero, List.set_cons_succ]
      refine till_take0 14 (some 122) (v := ?ve14) rfl rfl (by kernel_rfl) (by kernel_rfl) (by kernel_rfl) (fun _ _ _ h => h) (Or.inl ⟨by rfl, ?ye14⟩) trivial ?re14
      case ye14 => intro w' _; go_simp; all_goals with_reducible rfl
      simp only [Act.put, List.setIfInBounds_toArray, List.set_cons_zero, List.set_cons_succ]
      refine till_take0 15 (some 123) (v := ?ve15) rfl rfl (by kernel_rfl) (by kernel_rfl) (by kernel_rfl) (fun _ _ _ h => h) (Or.inl ⟨by rfl, ?ye15⟩) trivial ?re15
      case ye15 => intro w' _; go_simp; all_goals with_reducible rfl
      simp only [Act.put, List.setIfInBounds_toArray, List.set_cons_zero, List.set_cons_succ]
      refine till_take0 16 (some 124) (v := ?ve16) rfl rfl (by kernel_rfl) (by kernel_rfl) (by kernel_rfl) (fun _ _ _ h => h) (Or.inl ⟨by rfl, ?ye16⟩) trivial ?re16
      case ye16 => intro w' _; go_simp; all_goals with_reducible rfl
      simp only [Act.put, List.setIfInBounds_toArray, List.set_cons_zero, List.set_cons_succ]
      have cy := (GD.cellAt 0 (e := 3) (g := lb) (n := g + 1) (cap := g + 1) (xs := ivs bs) rfl (n + 1) hy1).1
      have fy := (GD.cellAt 0 (e := 3) (g := lb) (n := g + 1) (cap := g + 1) (xs := ivs bs) rfl (n + 1) hy1).2
      have T9 := (Goes.refl GD.own GD.size).setAt 0 (e := 3) (g := lb) (n := g + 1) (cap := g + 1) (xs := ivs bs) rfl (by decide) (n + 1) (.int .i64 ((x : Int) + (dn : Int)))
      refine till_one (i := 17) (by kernel_rfl) rfl rfl fun K hK => ?_
      go_simp
      refine hK _ _ (.inl (by simp)) id ?_
      clear hK K cy fy
      refine till_done (by kernel_rfl) ?_ _
      refine NoPanic.normal ?_
      obtain ⟨w9, hw9⟩ : ∃ W, W = wf.setCell ⟨lb, n + 1, none⟩ (.int .i64 ((x : Int) + (dn : Int))) := ⟨_, rfl⟩
      have eiv : (ivs bs).set (n + 1) (.int .i64 ((x : Int) + (dn : Int))) = ivs (bs.set (n + 1) (x + dn)) := by unfold ivs; rw [List.map_set]; rfl
      have T9 : Goes B wf (rowOf 3 (.slice (some ⟨lb, 0, none⟩) (g + 1) (g + 1)) (ivs bs) :: [rowOf 47 (.slice (some ⟨tb, 0, none⟩) (k + 1) tc) lvs, rowOf 47 (.slice (some ⟨pb, 0, none⟩) (k + 1) pc) pvs, rowOf 47 (.slice fva k fvc) fvs, box 45 sb (udXs rb rounds src off corr (.int .u8 (hn : Int)) (.int .i64 (exOf cn)) (.slice (some ⟨lb, 0, none⟩) (g + 1) (g + 1)) few fully (.int .i64 fu) (.int .i64 fg) (.slice (some ⟨tb, 0, none⟩) (k + 1) tc) (.slice (some ⟨pb, 0, none⟩) (k + 1) pc) (.slice fva k fvc))]) w9 (rowOf 3 (.slice (some ⟨lb, 0, none⟩) (g + 1) (g + 1)) (ivs (bs.set (n + 1) (x + dn))) :: [rowOf 47 (.slice (some ⟨tb, 0, none⟩) (k + 1) tc) lvs, rowOf 47 (.slice (some ⟨pb, 0, none⟩) (k + 1) pc) pvs, rowOf 47 (.slice fva k fvc) fvs, box 45 sb (udXs rb rounds src off corr (.int .u8 (hn : Int)) (.int .i64 (exOf cn)) (.slice (some ⟨lb, 0, none⟩) (g + 1) (g + 1)) few fully (.int .i64 fu) (.int .i64 fg) (.slice (some ⟨tb, 0, none⟩) (k + 1) tc) (.slice (some ⟨pb, 0, none⟩) (k + 1) pc) (.slice fva k fvc))]) := by rw [hw9, ← eiv]; exact T9
      rw [← hw9]
      have HGF : Hid (Goes B w [] w9 (rowOf 3 (.slice (some ⟨lb, 0, none⟩) (g + 1) (g + 1)) (ivs (bs.set (n + 1) (x + dn))) :: [rowOf 47 (.slice (some ⟨tb, 0, none⟩) (k + 1) tc) lvs, rowOf 47 (.slice (some ⟨pb, 0, none⟩) (k + 1) pc) pvs, rowOf 47 (.slice fva k fvc) fvs, box 45 sb (udXs rb rounds src off corr (.int .u8 (hn : Int)) (.int .i64 (exOf cn)) (.slice (some ⟨lb, 0, none⟩) (g + 1) (g + 1)) few fully (.int .i64 fu) (.int .i64 fg) (.slice (some ⟨tb, 0, none⟩) (k + 1) tc) (.slice (some ⟨pb, 0, none⟩) (k + 1) pc) (.slice fva k fvc))])) := GD.trans T9
      have HJ9 : Hid _ := And.intro (HJD.out.1.goes T9) (And.intro (HJD.out.2.1.goes T9) (HJD.out.2.2.goes T9))
      clear eiv hw9 T9 GD HJD hS hy1
      go_wp2_with fail
      go_roundw
      case rel =>
        refine ⟨n + 1, hlt, by go_num, bs.set (n + 1) (x + dn), by rw [List.length_set]; exact HBS.out.1, by rw [List.getElem?_set_ne (by omega)]; exact HBS.out.2.1, fun j hj h1 h2 => ?_, HGF.out, HJ9.out.1, HJ9.out.2.1, HJ9.out.2.2⟩
        rw [List.length_set] at h1 h2
        rw [List.getElem_set, List.getElem_set, if_neg (show ¬ n + 1 = j by omega)]
        split
        · rename_i h
          have : j = n := by omega
          subst this
          have hx' : bs[j] = x := (List.getElem?_eq_some_iff.1 HX.out).2
          rw [hx', ← HDN.out]
          exact ⟨rfl, by omega⟩
        · exact HBS.out.2.2 j (by omega) h1 h2
      case measure => simp [intOf]; omega
    · have hni : decide ((n : Int) < (g : Int)) = false := decide_eq_false (by omega)
      have hne : n = g := by omega
      subst hne
      go_wp2_with fail
      go_ret2
      obtain ⟨bs, hbl, hb0, hbs, gX, hJ1, hJ2, hNs⟩ := HU.out
      have hl0 : 0 < LS.length := (List.getElem?_eq_some_iff.1 HL0.out).1
      have hp0 : 0 < PS.length := (List.getElem?_eq_some_iff.1 HP0.out).1
      obtain ⟨ao, ec, hv0, hi0⟩ := hJ1.2 0 hl0
      obtain ⟨ap, pc0, hq0, hj0⟩ := hJ2.2 0 hp0
      have hLS : LS[0] = [(gs : Int)] := (List.getElem?_eq_some_iff.1 HL0.out).2
      have hPS : PS[0] = [-1] := (List.getElem?_eq_some_iff.1 HP0.out).2
      rw [hLS] at hv0 hi0
      rw [hPS] at hq0 hj0
      obtain ⟨eb, hao, ce, -⟩ := hi0 0 (by simp)
      obtain ⟨pb0, hap, cp, -⟩ := hj0 0 (by simp)
      subst hao
      subst hap
      exact ⟨sb, lb, k, tb, tc, pb, pc, fvc, eb, ec, pb0, 1, pc0, fva, bs, rfl, gX.below,
        ⟨gX.own.box_cell 4 rfl 1 rfl, gX.own.box_cell 4 rfl 2 rfl, gX.own.box_cell 4 rfl 4 rfl, gX.own.box_cell 4 rfl 5 rfl, gX.own.box_cell 4 rfl 6 rfl, gX.own.box_cell 4 rfl 7 rfl, gX.own.box_cell 4 rfl 8 rfl, gX.own.box_cell 4 rfl 9 rfl, gX.own.box_cell 4 rfl 10 rfl, gX.own.box_cell 4 rfl 11 rfl, gX.own.box_cell 4 rfl 12 rfl, gX.own.box_cell 4 rfl 13 rfl, gX.own.box_cell 4 rfl 14 rfl⟩,
        ⟨hbl, hb0, fun a ha h1 h2 => hbs a ha h1 h2, fun j hj => ⟨lb, rfl, Nat.zero_le _, (gX.cellAt 0 (e := 3) (g := lb) (n := n + 1) (cap := n + 1) (xs := ivs bs) rfl j (by simp [ivs, List.getElem?_eq_getElem hj])).1⟩⟩,
        ⟨(gX.cellAt 1 (e := 47) (g := tb) (n := k + 1) (cap := tc) (xs := lvs) rfl 0 hv0).1, ce, (gX.cellAt 2 (e := 47) (g := pb) (n := k + 1) (cap := pc) (xs := pvs) rfl 0 hq0).1, cp⟩, hk.out⟩

end YbulkaxksFmt
end Go.Proofs
