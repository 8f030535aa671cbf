/-
  LawS2436BFields: the last checks.
-/
import Derived.Test.YbulkaxksFmtLk
set_option linter.unusedVariables false
set_option linter.unusedSimpArgs false
namespace Go.Proofs
open Go.Extern.Stop Go.Stop Go.Extern Go.RowKit
namespace YbulkaxksFmt

noncomputable def code3_22 : Code := (Ybaf.f3.body.bind (findFrom 22)).getD .skip

set_option maxRecDepth 1000000 in
set_option maxHeartbeats 4000000 in
theorem fields_rest (B ib db dc g sb lb : Nat) (fg fu : Int) (bs deg : List Nat) (w x5 : World)
    (u0 u2 u3 u5 u7 u8 u10 u11 u12 u13 u14 u15 u16 u17 u18 u19 u20 u21 u22 u23 u24 u25 u26 u27 u28 u29 u30 u31 u32 u33 u34 u35 u36 u37 u38 u39 u40 u41 u42 u43 u44 u45 u46 u47 u48 u49 u50 u51 u52 u53 u54 u55 u56 u57 u58 u59 u60 u61 u62 u63 u64 u65 u66 u67 u68 u69 u70 u71 u72 u73 u74 u75 u76 u77 u78 u79 u80 u81 u82 u83 u84 u85 u86 u87 u88 u89 u90 u91 u92 u93 u94 u95 u96 u97 u98 u99 u100 u101 u102 u103 u104 u105 u106 u107 u108 u109 u110 u111 u112 u113 u114 u115 u116 u117 u118 u119 u120 u121 u122 u123 u124 u125 u126 u127 u128 u129 u130 u131 u132 u133 u134 u135 u136 u137 u138 u139 u140 u141 u142 u143 u144 u145 u146 u147 u148 u149 u150 u151 u152 u153 u154 u155 u156 u157 u158 u159 u160 u161 u162 u163 u164 u165 u166 u167 u168 u169 u170 u171 u172 u173 u174 u175 u176 u177 u178 u179 u180 u181 u182 u183 u184 u185 u186 u187 u188 u189 u190 u191 u192 u193 : Value)
    (HB : Hid (Below B w x5)) (hsz : B ≤ x5.heap.size) (hg4 : 1 ≤ g ∧ g ≤ 4) (ww3 : IntKind.i64.wrap fg = fg) (ww4 : IntKind.i64.wrap fu = fu)
    (o8 : x5.cell? ⟨ib, 8, none⟩ = some (.int .i8 fg)) (o9 : x5.cell? ⟨ib, 9, none⟩ = some (.int .i8 fu)) (t10 : x5.cell? ⟨sb, 10, none⟩ = some (.int .i64 fu)) (t11 : x5.cell? ⟨sb, 11, none⟩ = some (.int .i64 fg))
    (t7 : x5.cell? ⟨sb, 7, none⟩ = some (.slice (some ⟨lb, 0, none⟩) (g + 1) (g + 1)))
    (HBS : Hid (bs.length = g + 1 ∧ bs[0]? = some 0 ∧ (∀ a, a < g → ∀ (h1 : a < bs.length) (h2 : a + 1 < bs.length) (h3 : a < deg.length), bs[a + 1] = bs[a] + deg[a] ∧ bs[a + 1] ≤ 12 * (a + 1)) ∧ deg.length = g ∧ ∀ x ∈ deg, x ≤ 12)) (HNB : Hid (NatsAt x5 0 (some ⟨lb, 0, none⟩) bs)) (HND : Hid (NatsAt x5 0 (some ⟨db, 0, none⟩) deg)) :
    Code.wp Ybaf.prog code3_22 (bodyPost Ybaf.prog Ybaf.f3 (fun e w' => e = .returned (.bool true) ∧ Below B w w')) ⟨#[u0, .pointer (some ⟨ib, 0, none⟩), u2, u3, .slice (some ⟨db, 0, none⟩) g dc, u5, .int .i64 (g : Int), u7, u8, .pointer (some ⟨sb, 0, none⟩), u10, u11, u12, u13, u14, u15, u16, u17, u18, u19, u20, u21, u22, u23, u24, u25, u26, u27, u28, u29, u30, u31, u32, u33, u34, u35, u36, u37, u38, u39, u40, u41, u42, u43, u44, u45, u46, u47, u48, u49, u50, u51, u52, u53, u54, u55, u56, u57, u58, u59, u60, u61, u62, u63, u64, u65, u66, u67, u68, u69, u70, u71, u72, u73, u74, u75, u76, u77, u78, u79, u80, u81, u82, u83, u84, u85, u86, u87, u88, u89, u90, u91, u92, u93, u94, u95, u96, u97, u98, u99, u100, u101, u102, u103, u104, u105, u106, u107, u108, u109, u110, u111, u112, u113, u114, u115, u116, u117, u118, u119, u120, u121, u122, u123, u124, u125, u126, u127, u128, u129, u130, u131, u132, u133, u134, u135, u136, u137, u138, u139, u140, u141, u142, u143, u144, u145, u146, u147, u148, u149, u150, u151, u152, u153, u154, u155, u156, u157, u158, u159, u160, u161, u162, u163, u164, u165, u166, u167, u168, u169, u170, u171, u172, u173, u174, u175, u176, u177, u178, u179, u180, u181, u182, u183, u184, u185, u186, u187, u188, u189, u190, u191, u192, u193], []⟩ x5 := by
  conv => arg 2; whnf
  go_wp2_with fail
  go_quiet (fail)
  have BQ : Hid (Below x5.heap.size x5 (x5.drewN nq)) := below_drewN (Below.refl _ _) nq
  obtain ⟨x6, hx6⟩ : ∃ W, W = x5.drewN nq := ⟨_, rfl⟩
  rw [← hx6] at BQ ⊢
  clear hx6
  replace t7 := Below.cellK BQ.out t7
  have HB6 : Hid (Below B w x6) := HB.out.trans (BQ.out.mono hsz)
  replace HNB : Hid (NatsAt x6 0 (some ⟨lb, 0, none⟩) bs) := HNB.out.below BQ.out
  replace HND : Hid (NatsAt x6 0 (some ⟨db, 0, none⟩) deg) := HND.out.below BQ.out
  have hsz6 : B ≤ x6.heap.size := Nat.le_trans hsz BQ.out.size
  clear o8 o9 t10 t11 BQ HB
  obtain ⟨lb', hlb, -, cb0⟩ := HNB.out 0 (by have := HBS.out.1; omega)
  injection hlb with hlb
  injection hlb with hlb _ _
  subst hlb
  have hbz : bs[0]'(by have := HBS.out.1; omega) = 0 := (List.getElem?_eq_some_iff.1 HBS.out.2.1).2
  rw [hbz] at cb0
  unfold iv at cb0
  clear hbz
  have hwg : IntKind.i64.wrap ((g : Int) + 1) = (g : Int) + 1 := by rw [IntKind.wrap_i64]; omega
  have hg0 : (0 : Int) < (g : Int) + 1 := by omega
  go_upto_region 27 with fail
  have R0 : Hid (Below x6.heap.size x6 x6) := Below.refl _ _
  go_loopw [16] (fun a wr => ∃ n : Nat, n ≤ g ∧ a = .int .i64 (n : Int) ∧ Hid (Below x6.heap.size x6 wr)) (fun a _ => g - (intOf a).toNat)
  case atStart => exact ⟨0, Nat.zero_le _, rfl, R0⟩
  case round =>
    clear R0 cb0
    obtain ⟨n, hng, rfl, HW⟩ := hrel
    by_cases hlt : n < g
    · have hni : (n : Int) < (g : Int) := by omega
      replace t7 := Below.cellK HW.out t7
      have hl1 : n < bs.length := by have := HBS.out.1; omega
      have hl2 : n + 1 < bs.length := by have := HBS.out.1; omega
      have hl3 : n < deg.length := by have := HBS.out.2.2.2.1; omega
      obtain ⟨lb', hlb, -, cb0⟩ := (HNB.out.below HW.out) n hl1
      injection hlb with hlb
      injection hlb with hlb _ _
      subst hlb
      obtain ⟨lb', hlb, -, cb1⟩ := (HNB.out.below HW.out) (n + 1) hl2
      injection hlb with hlb
      injection hlb with hlb _ _
      subst hlb
      obtain ⟨lb', hlb, -, cd⟩ := (HND.out.below HW.out) n hl3
      injection hlb with hlb
      injection hlb with hlb _ _
      subst hlb
      have hst := HBS.out.2.2.1 n hlt hl1 hl2 hl3
      have hd12 := HBS.out.2.2.2.2 _ (List.getElem_mem hl3)
      obtain ⟨x, hx⟩ : ∃ x, x = bs[n] := ⟨_, rfl⟩
      obtain ⟨y, hy⟩ : ∃ x, x = bs[n + 1] := ⟨_, rfl⟩
      obtain ⟨d, hd⟩ : ∃ x, x = deg[n] := ⟨_, rfl⟩
      rw [← hx, ← hy, ← hd] at hst
      rw [← hx] at cb0
      rw [← hy] at cb1
      rw [← hd] at cd hd12
      unfold iv at cb0 cb1 cd
      clear hx hy hd hl1 hl2 hl3
      have hw1 : IntKind.i64.wrap ((n : Int) + 1) = (((n + 1 : Nat)) : Int) := by rw [IntKind.wrap_i64]; omega
      have e0i : 0 ≤ (n : Int) + 1 := by omega
      have e1i : (n : Int) + 1 < (g : Int) + 1 := by omega
      have e2i : (n : Int) < (g : Int) + 1 := by omega
      have hwd : IntKind.i64.wrap ((y : Int) - (x : Int)) = (d : Int) := by rw [IntKind.wrap_i64]; omega
      clear hst
      go_wp2_with fail
      go_quiet (fail)
      go_wp2_with fail
      go_roundw
      case rel => exact ⟨n + 1, hlt, by go_num, below_drewN HW.out nq⟩
      case measure => simp [intOf]; omega
    · have hni : decide ((n : Int) < (g : Int)) = false := decide_eq_false (by omega)
      go_wp2_with fail
      go_ret
      exact ⟨rfl, HB6.out.trans (HW.out.mono hsz6)⟩

end YbulkaxksFmt
end Go.Proofs
