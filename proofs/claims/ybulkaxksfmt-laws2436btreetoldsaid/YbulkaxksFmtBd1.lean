/-
  The law's builder: the links.
-/
import Derived.Test.YbulkaxksFmtBd0
set_option linter.unusedVariables false
set_option linter.unusedSimpArgs false
namespace Go.Proofs
open Go.RowKit
namespace YbulkaxksFmt


theorem nats_of_row {w : World} {B : Nat} {n cap : Nat} {a : Option Addr} {l : List Nat} (h : RowM w B 3 1 (.slice a n cap) (ivs l).length (ivs l)) : NatsAt w 0 a l := fun j hj => by
  have := h.addr (by rw [ivs_length]; omega)
  obtain ⟨g, e, hc⟩ := this
  exact ⟨g, e, Nat.zero_le _, hc j _ (by simp [ivs, List.getElem?_eq_getElem hj])⟩

theorem bl_net {w : World} {B nb g : Nat} {ps : List Nat} {all : Bool} {prs : List (Nat × Nat)} {grv pv : Value} {gxs pxs : List Value} (hps : ps.length = g) (h1 : 1 ≤ g) (h2 : w.cell? ⟨nb, 2, none⟩ = some grv) (hr : RowM w B 57 3 grv g gxs) (hgr : GrOk ps gxs)
    (h4 : w.cell? ⟨nb, 4, none⟩ = some pv) (hp : RowM w B 9 1 pv ps.sum pxs) (h6 : w.cell? ⟨nb, 6, none⟩ = some (.bool all))
    (h7 : all = false → ∃ mb, w.cell? ⟨nb, 7, none⟩ = some (.map (some mb)) ∧ LinkMap w mb prs)
    (h8 : all = false → ∃ a cap, w.cell? ⟨nb, 8, none⟩ = some (.slice a prs.length cap) ∧ ∀ j (hj : j < prs.length), ∃ b, a = some ⟨b, 0, none⟩ ∧ w.cell? ⟨b, j * 2, none⟩ = some (iv prs[j].1) ∧ w.cell? ⟨b, j * 2 + 1, none⟩ = some (iv prs[j].2)) : NetAt w nb ps all prs := by
  obtain ⟨ga, gc, hgf⟩ := hr.form
  subst hgf
  obtain ⟨pa, pc, hpf⟩ := hp.form
  subst hpf
  obtain ⟨gb, hga, hcells⟩ := hr.addr (by omega)
  refine ⟨⟨ga, gc, by rw [hps]; exact h2, fun j hj => ?_⟩, ⟨pa, pc, h4⟩, h6, fun ha => ?_, h8⟩
  · obtain ⟨c0, c1, qa, qc, c2⟩ := hgr.2 j hj
    exact ⟨gb, qa, qc, hga, hcells _ _ c0, hcells _ _ c1, hcells _ _ c2⟩
  · obtain ⟨mb, e1, es, c, e2, e3, _⟩ := h7 ha
    exact ⟨mb, es, c, e1, e2, e3⟩

theorem full_all (g : Nat) (ps : List Nat) (deg : List Nat) (hps : ps.length = g) (hg : 1 ≤ g ∧ g ≤ 4) (hl : deg.length = g) (hd : ∀ a (ha : a < deg.length), deg[a] = g - 1) (prs : List (Nat × Nat)) : fullN deg = fullB ps true prs := by
  have e : deg = List.replicate g (g - 1) := by
    apply List.ext_getElem
    · simp [hl]
    · intro i h1 h2
      rw [hd i h1]; simp
  rw [e]
  unfold fullN fullB linkN
  rw [hps, if_pos rfl]
  obtain rfl | rfl | rfl | rfl : g = 1 ∨ g = 2 ∨ g = 3 ∨ g = 4 := by omega
  all_goals decide

def fa (a : Nat) : Nat := a * (7 - a) / 2
def lxs (prs : List (Nat × Nat)) : List Value := prs.flatMap (fun p => [iv p.1, iv p.2])
theorem lxs_length : ∀ (prs : List (Nat × Nat)), (lxs prs).length = prs.length * 2
  | [] => rfl
  | p :: t => by
    have := lxs_length t
    unfold lxs at this ⊢
    rw [List.flatMap_cons, List.length_append, this]
    simp
    omega
theorem lxs_snoc (prs : List (Nat × Nat)) (a b : Nat) : lxs (prs ++ [(a, b)]) = lxs prs ++ [iv a, iv b] := by simp [lxs]
theorem lxs_get : ∀ (prs : List (Nat × Nat)) (j : Nat) (hj : j < prs.length), (lxs prs)[j * 2]? = some (iv prs[j].1) ∧ (lxs prs)[j * 2 + 1]? = some (iv prs[j].2)
  | p :: t, 0, _ => by simp [lxs]
  | p :: t, j + 1, hj => by
    have := lxs_get t j (by simpa using hj)
    unfold lxs at this ⊢
    rw [List.flatMap_cons, Nat.add_mul]
    constructor
    · rw [List.getElem?_append_right (by simp)]
      simpa using this.1
    · rw [List.getElem?_append_right (by simp)]
      simpa [show j * 2 + 1 * 2 + 1 - 2 = j * 2 + 1 by omega] using this.2

theorem cntP_snoc (prs : List (Nat × Nat)) (a b c : Nat) : cntP (prs ++ [(a, b)]) c = cntP prs c + (if a = c then 1 else 0) + (if b = c then 1 else 0) := by
  unfold cntP
  simp only [List.countP_append, List.countP_cons, List.countP_nil, beq_iff_eq, Nat.zero_add]
  omega
theorem cntP_le (prs : List (Nat × Nat)) (c : Nat) : cntP prs c ≤ 2 * prs.length := by
  unfold cntP
  have h1 := List.countP_le_length (p := fun p : Nat × Nat => p.1 == c) (l := prs)
  have h2 := List.countP_le_length (p := fun p : Nat × Nat => p.2 == c) (l := prs)
  omega
theorem cntP_cons (p : Nat × Nat) (prs : List (Nat × Nat)) (c : Nat) : cntP (p :: prs) c = cntP prs c + (if p.1 = c then 1 else 0) + (if p.2 = c then 1 else 0) := by
  unfold cntP
  simp only [List.countP_cons, beq_iff_eq]
  omega
theorem cnt_sum (g : Nat) (hg : g ≤ 4) : ∀ (prs : List (Nat × Nat)), (∀ p ∈ prs, p.1 < p.2 ∧ p.2 < g) → ((List.range g).map (cntP prs)).sum = 2 * prs.length
  | [], _ => by
    obtain rfl | rfl | rfl | rfl | rfl : g = 0 ∨ g = 1 ∨ g = 2 ∨ g = 3 ∨ g = 4 := by omega
    all_goals decide
  | p :: t, h => by
    have ih := cnt_sum g hg t (fun q hq => h q (List.mem_cons_of_mem _ hq))
    have hp := h p (List.mem_cons_self ..)
    obtain ⟨x, y⟩ := p
    simp only [] at hp
    have e : ∀ c, cntP ((x, y) :: t) c = cntP t c + (if x = c then 1 else 0) + (if y = c then 1 else 0) := fun c => cntP_cons (x, y) t c
    obtain rfl | rfl | rfl | rfl | rfl : g = 0 ∨ g = 1 ∨ g = 2 ∨ g = 3 ∨ g = 4 := by omega
    · omega
    · omega
    · simp only [List.range, List.range.loop, List.map_cons, List.map_nil, List.sum_cons, List.sum_nil, List.length_cons, e] at ih ⊢
      repeat' split
      all_goals omega
    · simp only [List.range, List.range.loop, List.map_cons, List.map_nil, List.sum_cons, List.sum_nil, List.length_cons, e] at ih ⊢
      repeat' split
      all_goals omega
    · simp only [List.range, List.range.loop, List.map_cons, List.map_nil, List.sum_cons, List.sum_nil, List.length_cons, e] at ih ⊢
      repeat' split
      all_goals omega
theorem full_prs (g : Nat) (ps deg : List Nat) (prs : List (Nat × Nat)) (hps : ps.length = g) (hg : g ≤ 4) (hl : deg.length = g) (hd : ∀ a (ha : a < deg.length), deg[a] = cntP prs a) (hp : ∀ p ∈ prs, p.1 < p.2 ∧ p.2 < g) : fullN deg = fullB ps false prs := by
  have e : deg = (List.range g).map (cntP prs) := by
    apply List.ext_getElem
    · simp [hl]
    · intro i h1 h2
      rw [hd i h1]; simp
  unfold fullN fullB linkN
  rw [hl, hps]
  conv => lhs; rw [e]
  rw [cnt_sum g hg prs hp, Bool.eq_iff_iff]
  simp

/-- The links that are told. -/
def LRel (B : Nat) (w : World) (nb ib db mb g : Nat) (ins : List Value) (gv grv pv : Value) (GL : List Nat) (pn : Nat) (gxs : List Value) (prs : List (Nat × Nat)) (wr : World) : Prop :=
  ∃ lv dl, dl.length = g ∧ (∀ a (ha : a < dl.length), dl[a] = cntP prs a) ∧ (∀ p ∈ prs, p.1 < p.2 ∧ p.2 < g) ∧ LinkMap wr mb prs ∧
    Goes B w [] wr (⟨59, 2, lv, prs.length, lxs prs⟩ :: rowOf 3 (.slice (some ⟨db, 0, none⟩) g g) (ivs dl) :: BL nb ib ins false (.map (some mb)) lv gv grv pv GL g pn gxs)

/-- Every pair linked, told up to group k. -/
def TRel (B : Nat) (w : World) (nb ib db g : Nat) (ins : List Value) (gv grv pv : Value) (GL : List Nat) (pn : Nat) (gxs : List Value) (k : Nat) (wr : World) : Prop :=
  ∃ dl, dl.length = g ∧ (∀ a (ha : a < k) (hb : a < dl.length), dl[a] = g - 1) ∧
    Goes B w [] wr (rowOf 3 (.slice (some ⟨db, 0, none⟩) g g) (ivs dl) :: BL nb ib ins true (.map none) (.slice none 0 0) gv grv pv GL g pn gxs)
set_option maxRecDepth 1000000 in
set_option maxHeartbeats 2000000 in
theorem build_rest (B nb ib db g : Nat) (zs : List Int) (ins : List Value) (G : Int) (sa : Option Addr) (zn zc : Nat) (all : Bool) (mask hh sr bg cn fg fu fl r0 r1 r2 r3 : Int) (gv grv pv : Value) (gxs : List Value) (w w1 : World)
    (u2 u3 u4 u8 u9 u10 u12 u13 u14 u15 u16 u17 u18 u19 u20 u21 u22 u23 u24 u25 u26 u27 u28 u29 u30 u31 u32 u33 u34 u35 u36 u37 u38 u39 u40 u41 u42 u43 u44 u45 u46 u47 u48 u49 u50 u51 u52 u53 u54 u55 u56 u57 u58 u59 u60 u61 u62 u63 u64 u65 u66 u67 u68 u69 u70 u71 u72 u73 u74 u75 u76 u77 u78 u79 u80 u81 u82 u83 u84 u85 u86 u87 u88 u89 u90 u91 u92 u93 u94 u95 u96 u97 u98 u99 u100 u101 u102 u103 u104 u105 u106 u107 u108 u109 u110 u111 u112 u113 u114 u115 u116 u117 u118 u119 u120 u121 u122 u123 u124 u125 u126 u127 u128 u129 u130 u131 u132 u133 u134 u135 u136 u137 u138 u139 u140 u141 u142 u143 u144 u145 u146 u147 u148 u149 u150 u151 u152 u153 : Value)
    (HB : Hid (B = w.heap.size)) (HINS : Hid (ins = (inXs G (.slice sa zn zc) all mask hh sr bg cn fg fu fl r0 r1 r2 r3).toList)) (hg4 : 1 ≤ g ∧ g ≤ 4) (hm : 0 ≤ mask ∧ mask ≤ 255) (HGR : Hid (GrOk (psOf zs g) gxs))
    (G0 : Goes B w [] w1 (rowOf 3 (.slice (some ⟨db, 0, none⟩) g g) (List.replicate g (.int .i64 0)) :: BL nb ib ins false (.map none) (.slice none 0 0) gv grv pv (groupL 0 (psOf zs g)) g (psOf zs g).sum gxs)) :
    Code.wp Ybaf.prog code5_17 (bodyPost Ybaf.prog Ybaf.f5 (BuildPost w.heap.size w zs g all)) ⟨#[.agg (inXs G (.slice sa zn zc) all mask hh sr bg cn fg fu fl r0 r1 r2 r3), .pointer (some ⟨ib, 0, none⟩), u2, u3, u4, .int .i64 (g : Int), .pointer (some ⟨nb, 0, none⟩), gv, u8, u9, u10, .slice (some ⟨db, 0, none⟩) g g, u12, u13, u14, u15, u16, u17, u18, u19, u20, u21, u22, u23, u24, u25, u26, u27, u28, u29, u30, u31, u32, u33, u34, u35, u36, u37, u38, u39, u40, u41, u42, u43, u44, u45, u46, u47, u48, u49, u50, u51, u52, u53, u54, u55, u56, u57, u58, u59, u60, u61, u62, u63, u64, u65, u66, u67, u68, u69, u70, u71, u72, u73, u74, u75, u76, u77, u78, u79, u80, u81, u82, u83, u84, u85, u86, u87, u88, u89, u90, u91, u92, u93, u94, u95, u96, u97, u98, u99, u100, u101, u102, u103, u104, u105, u106, u107, u108, u109, u110, u111, u112, u113, u114, u115, u116, u117, u118, u119, u120, u121, u122, u123, u124, u125, u126, u127, u128, u129, u130, u131, u132, u133, u134, u135, u136, u137, u138, u139, u140, u141, u142, u143, u144, u145, u146, u147, u148, u149, u150, u151, u152, u153], []⟩ w1 := by
  obtain ⟨i59, hi59, hz590, hz591, hz592⟩ := info_parts Ybaf.kinfo59
  have HGLl : Hid ((groupL 0 (psOf zs g)).length = (psOf zs g).sum) := groupL_length _ _
  have HPL : Hid ((psOf zs g).length = g) := psOf_length _ _
  obtain ⟨ga, gc, hgf⟩ := (G0.rowAt 1 rfl).form
  rw [ivs_length, HGLl.out] at hgf
  subst hgf
  obtain ⟨GL, hGL⟩ : ∃ l, l = groupL 0 (psOf zs g) := ⟨_, rfl⟩
  obtain ⟨pn, hpn⟩ : ∃ l, l = (psOf zs g).sum := ⟨_, rfl⟩
  have HGL : Hid (GL = groupL 0 (psOf zs g)) := hGL
  have HPN : Hid (pn = (psOf zs g).sum) := hpn
  rw [← hGL, ← hpn] at G0
  rw [← hpn]
  clear hGL hpn
  have y2 : w1.cell? ⟨ib, 2, none⟩ = some (.bool all) := G0.own.box_cell 5 rfl 2 (by rw [HINS.out]; rfl)
  have hmk : ∀ W : World, (Instr.makeMap 52 none).run Ybaf.prog W = .ok (.map (some W.heap.size)) (W.alloc (.map #[] 0)) := fun W => by
    simp [Instr.makeMap]
  conv => arg 2; whnf
  cases all
  case true =>
    have z6 := G0.own.box_cell 4 rfl 6 rfl
    have f6 := G0.own.box_frozen 4 rfl 6 (by simp [nwXs])
    have G1 := G0.setBox 4 rfl (by decide) 6 (by simp [nwXs]) (.bool true)
    go_upto_region 20 with fail
    obtain ⟨x0, hx0⟩ : ∃ W, W = w1.setCell ⟨nb, 6, none⟩ (.bool true) := ⟨_, rfl⟩
    have R0 : Hid (TRel B w nb ib db g ins (.slice ga pn gc) grv pv GL pn gxs 0 x0) := ⟨List.replicate g 0, by simp, fun a ha hb => absurd ha (Nat.not_lt_zero _), by rw [hx0]; have e : ivs (List.replicate g 0) = List.replicate g (.int .i64 0) := by { simp [ivs, iv] }; rw [e]; exact G1⟩
    rw [← hx0]
    clear hx0 G1 z6 f6 y2 G0 hmk
    go_loopw [12] (fun a wr => ∃ k : Nat, k ≤ g ∧ a = .int .i64 (k : Int) ∧ Hid (TRel B w nb ib db g ins (.slice ga pn gc) grv pv GL pn gxs k wr)) (fun a _ => g - (intOf a).toNat)
    case atStart => exact ⟨0, Nat.zero_le _, rfl, R0⟩
    case round =>
      clear R0
      obtain ⟨k, hkg, rfl, HC⟩ := hrel
      by_cases hlt : k < g
      · have hki : (k : Int) < (g : Int) := by omega
        obtain ⟨dl, hdl, hdv, gW⟩ := HC.out
        obtain ⟨dk, hdk⟩ : ∃ v, (ivs dl)[k]? = some v := ⟨_, List.getElem?_eq_getElem (show k < (ivs dl).length by rw [ivs_length]; omega)⟩
        have ck := (gW.cellAt 0 (e := 3) (g := db) (n := g) (cap := g) (xs := ivs dl) rfl k hdk).1
        have fk := (gW.cellAt 0 (e := 3) (g := db) (n := g) (cap := g) (xs := ivs dl) rfl k hdk).2
        clear hdk
        have gX := gW.setAt 0 (e := 3) (g := db) (n := g) (cap := g) (xs := ivs dl) rfl (by decide) k (.int .i64 ((g : Int) - 1))
        have hwg : IntKind.i64.wrap ((g : Int) - 1) = (g : Int) - 1 := by rw [IntKind.wrap_i64]; omega
        have HDV : Hid (∀ a (ha : a < k) (hb : a < dl.length), dl[a] = g - 1) := hdv
        have HDL : Hid (dl.length = g) := hdl
        have HGX : Hid (Goes B w [] (wr.setCell ⟨db, k, none⟩ (.int .i64 ((g : Int) - 1))) ((rowOf 3 (.slice (some ⟨db, 0, none⟩) g g) (ivs dl) :: BL nb ib ins true (.map none) (.slice none 0 0) (.slice ga pn gc) grv pv GL g pn gxs).set 0 (rowOf 3 (.slice (some ⟨db, 0, none⟩) g g) ((ivs dl).set k (.int .i64 ((g : Int) - 1)))))) := gX
        clear hdv hdl HC gX gW
        go_wp2_with fail
        go_roundw
        case rel =>
          refine ⟨k + 1, hlt, by go_num, dl.set k (g - 1), by rw [List.length_set]; exact HDL.out, fun a ha hb => ?_, ?_⟩
          · rw [List.getElem_set]
            split
            · rfl
            · exact HDV.out a (by omega) (by simpa using hb)
          · have e : ivs (dl.set k (g - 1)) = (ivs dl).set k (.int .i64 ((g : Int) - 1)) := by
              unfold ivs
              rw [List.map_set]
              congr 1
              unfold iv
              congr 1
              omega
            rw [e]
            exact HGX.out
        case measure => simp [intOf]; omega
      · have hki : decide ((k : Int) < (g : Int)) = false := decide_eq_false (by omega)
        have hke : k = g := by omega
        subst hke
        obtain ⟨dl, hdl, hdv, gW⟩ := HC.out
        go_wp2_with fail
        go_ret3
        have hdv' : ∀ a (ha : a < dl.length), dl[a] = k - 1 := fun a ha => hdv a (by omega) ha
        refine ⟨nb, db, k, ga, gc, [], dl, by rw [← HPN.out]; rfl, ?_, hdl, nats_of_row (gW.rowAt 0 rfl), by rw [← HGL.out]; exact nats_of_row (gW.rowAt 1 rfl), by rw [← HB.out]; exact gW.below, (fun p hp => by cases hp), by simp, fun a ha => ?_, fun a => ?_, ?_⟩
        · exact bl_net HPL.out hg4.1 (gW.own.box_cell 4 rfl 2 rfl) (gW.own.get 2 rfl) HGR.out (gW.own.box_cell 4 rfl 4 rfl) (by rw [← HPN.out]; exact gW.own.get 3 rfl) (gW.own.box_cell 4 rfl 6 rfl) (fun h => by cases h) (fun h => by cases h)
        · rw [hdv' a ha]
          unfold degN
          rw [if_pos rfl, HPL.out]
        · unfold degN
          rw [if_pos rfl, HPL.out]
          omega
        · exact full_all k _ dl HPL.out hg4 hdl hdv' []
  case false =>
    have z7 := fun (o : Obj) => (G0.alloc o).own.box_cell 4 rfl 7 rfl
    have f7 := fun (o : Obj) => (G0.alloc o).own.box_frozen 4 rfl 7 (by simp [nwXs])
    go_upto_region 27 with fail
    obtain ⟨mb, hmb⟩ : ∃ x, x = w1.heap.size := ⟨_, rfl⟩
    have hbm : B ≤ mb := by rw [hmb]; exact G0.size
    have G1 := ((G0.alloc (.map #[] 0)).setBox 4 rfl (by decide) 7 (by simp [nwXs]) (.map (some mb))).cons (r := ⟨59, 2, .slice none 0 0, 0, []⟩) ⟨rfl, .inl ⟨rfl, rfl⟩⟩ (World.grownBy.refl _ none) (fun k hk => by simp [Value.ownBlock] at hk)
    have M0 : LinkMap (w1.alloc (.map #[] 0)) mb [] := ⟨#[], 0, by rw [hmb]; exact heap_alloc_new w1 _, rfl, fun e he => by simp at he⟩
    have M1 := M0.row (G0.alloc (.map #[] 0)).own (i := 4) rfl (grown_setCell _ nb 7 (.map (some mb)))
    obtain ⟨x0, hx0⟩ : ∃ W, W = (w1.alloc (.map #[] 0)).setCell ⟨nb, 7, none⟩ (.map (some mb)) := ⟨_, rfl⟩
    have R0 : Hid (LRel B w nb ib db mb g ins (.slice ga pn gc) grv pv GL pn gxs [] x0) := ⟨.slice none 0 0, List.replicate g 0, by simp, fun a ha => by simp [cntP], (fun p hp => by cases hp), by rw [hx0]; exact M1, by rw [hx0]; have e : ivs (List.replicate g 0) = List.replicate g (.int .i64 0) := by { simp [ivs, iv] }; rw [e]; exact G1⟩
    rw [← hmb, ← hx0]
    clear hx0 G1 z7 f7 y2 G0 hmk M0 M1 hmb
    go_loopw [13, 14] (fun a b wr => ∃ (k : Nat) (prs : List (Nat × Nat)), k ≤ 4 ∧ a = .int .i64 ((fa k : Nat) : Int) ∧ b = .int .i64 (k : Int) ∧ Hid (prs.length ≤ fa k ∧ (∀ p ∈ prs, p.1 < k) ∧ LRel B w nb ib db mb g ins (.slice ga pn gc) grv pv GL pn gxs prs wr)) (fun _ b _ => 4 - (intOf b).toNat)
    case atStart => exact ⟨0, [], by omega, rfl, rfl, by simp, (fun p hp => by cases hp), R0⟩
    case round =>
      clear R0
      obtain ⟨k, prs, hk4, rfl, rfl, HC⟩ := hrel
      by_cases hlt : k < 4
      · have hki : (k : Int) < 4 := by omega
        have R1 : Hid (prs.length ≤ fa k + (k + 1 - k - 1) ∧ (∀ p ∈ prs, p.1 < k ∨ (p.1 = k ∧ p.2 < k + 1)) ∧ LRel B w nb ib db mb g ins (.slice ga pn gc) grv pv GL pn gxs prs wr) := ⟨by have := HC.out.1; omega, fun p hp => .inl (HC.out.2.1 p hp), HC.out.2.2⟩
        clear HC
        have hfk : fa k ≤ 6 := by unfold fa; obtain rfl | rfl | rfl | rfl : k = 0 ∨ k = 1 ∨ k = 2 ∨ k = 3 := by omega
                                  all_goals decide
        go_wp2_with fail
        go_loopw [13, 15] (fun a b wr => ∃ (j : Nat) (prs : List (Nat × Nat)), k + 1 ≤ j ∧ j ≤ 4 ∧ a = .int .i64 ((fa k + (j - k - 1) : Nat) : Int) ∧ b = .int .i64 (j : Int) ∧ Hid (prs.length ≤ fa k + (j - k - 1) ∧ (∀ p ∈ prs, p.1 < k ∨ (p.1 = k ∧ p.2 < j)) ∧ LRel B w nb ib db mb g ins (.slice ga pn gc) grv pv GL pn gxs prs wr)) (fun _ b _ => 4 - (intOf b).toNat)
        case atStart => exact ⟨k + 1, prs, by omega, by omega, by simp, by go_num, R1⟩
        case round =>
          clear R1
          obtain ⟨j, prs, hj1, hj4, rfl, rfl, HC⟩ := hrel
          by_cases hjl : j < 4
          · have hji : (j : Int) < 4 := by omega
            obtain ⟨bit, hbit⟩ : ∃ b, b = fa k + (j - k - 1) := ⟨_, rfl⟩
            have hb8 : bit ≤ 8 := by omega
            have HBIT : Hid (bit = fa k + (j - k - 1)) := hbit
            rw [← hbit]
            rw [← hbit] at HC
            clear hbit
            have hwb : IntKind.i64.wrap ((bit : Int) + 1) = ((bit + 1 : Nat) : Int) := by rw [IntKind.wrap_i64]; omega
            obtain ⟨lv, dl, hdl, hdv, hpp, hM, gW⟩ := HC.out.2.2
            have y3 : wr.cell? ⟨ib, 3, none⟩ = some (.int .u8 mask) := gW.own.box_cell 6 rfl 3 (by rw [HINS.out]; rfl)
            by_cases hjg : j < g
            · have hjgi : (j : Int) < (g : Int) := by omega
              obtain ⟨cb, hcb⟩ : ∃ c, (bits BinOp.and IntKind.u8 (mask / 2 ^ bit) 1 == 1) = c := ⟨_, rfl⟩
              cases cb
              · clear hdl hdv hpp hM gW
                go_wp2_with fail
                go_roundw
                case rel =>
                  refine ⟨j + 1, prs, by omega, by omega, ?_, by go_num, ?_, fun p hp => ?_, HC.out.2.2⟩
                  · have := HBIT.out; rw [show fa k + (j + 1 - k - 1) = bit + 1 by omega]; push_cast; rfl
                  · have := HBIT.out; have := HC.out.1; omega
                  · rcases HC.out.2.1 p hp with h | h
                    · exact .inl h
                    · exact .inr ⟨h.1, by omega⟩
                case measure => simp [intOf]; omega
              · have hnew : Hid ((k, j) ∉ prs) := fun h => by have := HC.out.2.1 _ h; simp at this
                have HPP : Hid (∀ p ∈ prs, p.1 < p.2 ∧ p.2 < g) := hpp
                have HDV : Hid (dl.length = g ∧ ∀ a (ha : a < dl.length), dl[a] = cntP prs a) := ⟨hdl, hdv⟩
                have HLO : Hid (prs.length ≤ bit ∧ ∀ p ∈ prs, p.1 < k ∨ (p.1 = k ∧ p.2 < j)) := ⟨HC.out.1, HC.out.2.1⟩
                have hl8 : prs.length ≤ 8 := by have := HC.out.1; omega
                obtain ⟨la, lc, hlf⟩ := (show RowM wr B 59 2 lv prs.length (lxs prs) from gW.own.get 0 rfl).form
                subst hlf
                clear hdl hdv hpp HC
                go_upto_region 34 with fail
                have gK := gW.alloc (.cells #[.int .i64 (k : Int), .int .i64 (j : Int)] 59)
                have nk := news_alloc wr [.int .i64 (k : Int), .int .i64 (j : Int)] 59
                simp only [add_zero_off] at nk
                have c0 : CellS (wr.alloc (.cells #[.int .i64 (k : Int), .int .i64 (j : Int)] 59)) _ ⟨wr.heap.size, 0, none⟩ (.int .i64 (k : Int)) := ⟨nk 0 _ rfl, safe_new gW.own 0⟩
                have c1 : CellS (wr.alloc (.cells #[.int .i64 (k : Int), .int .i64 (j : Int)] 59)) _ ⟨wr.heap.size, 1, none⟩ (.int .i64 (j : Int)) := ⟨nk 1 _ rfl, safe_new gW.own 1⟩
                have M1 := hM.kept (World.grownBy_alloc wr (.cells #[.int .i64 (k : Int), .int .i64 (j : Int)] 59) none) (by simp)
                obtain ⟨kb, hkb⟩ : ∃ x, x = wr.heap.size := ⟨_, rfl⟩
                obtain ⟨wk, hwk⟩ : ∃ W, W = wr.alloc (.cells #[.int .i64 (k : Int), .int .i64 (j : Int)] 59) := ⟨_, rfl⟩
                rw [← hwk] at gK c0 c1 M1
                rw [← hkb] at c0 c1
                rw [← hwk, ← hkb]
                clear hwk hkb nk gW hM y3
                refine wp_region_noPanic ?_
                refine wp_region_till (by kernel_rfl) (fun W => W.cell? ⟨nb, 7, none⟩ = some (.map (some mb)) ∧ W.cell? ⟨kb, 0, none⟩ = some (.int .i64 (k : Int)) ∧ W.cell? ⟨kb, 1, none⟩ = some (.int .i64 (j : Int))) (fun _ => True) [5] 6 rfl ?_
                have TD := (Goes.refl gK.own gK.size).drew
                have GD := gK.trans TD
                have d0 := c0.goes TD
                have d1 := c1.goes TD
                have MD := M1.kept (w' := wk.drew) (row := none) ⟨rfl, rfl, rfl, Nat.le_refl _, fun _ _ _ => rfl⟩ (by simp)
                obtain ⟨wd, hwd⟩ : ∃ W, W = wk.drew := ⟨_, rfl⟩
                rw [← hwd] at GD d0 d1 MD ⊢
                clear hwd TD gK c0 c1 M1
                have hS : wd.cell? ⟨nb, 7, none⟩ = some (.map (some mb)) ∧ wd.cell? ⟨kb, 0, none⟩ = some (.int .i64 (k : Int)) ∧ wd.cell? ⟨kb, 1, none⟩ = some (.int .i64 (j : Int)) := ⟨GD.own.box_cell 5 rfl 7 rfl, d0.1, d1.1⟩
                refine till_take0 0 (some 122) (v := ?va0) rfl rfl (by kernel_rfl) (by kernel_rfl) (by kernel_rfl) (fun _ _ _ h => h) (Or.inl ⟨by rfl, ?ya0⟩) trivial ?ra0
                case ya0 => intro w' _; go_simp; all_goals with_reducible rfl
                simp only [Act.put, List.setIfInBounds_toArray, List.set_cons_zero, List.set_cons_succ]
                refine till_take0 1 (some 123) (v := ?va1) rfl rfl (by kernel_rfl) (by kernel_rfl) (by kernel_rfl) (fun _ _ _ h => h) (Or.inl ⟨by rfl, ?ya1⟩) trivial ?ra1
                case ya1 => intro w' _; go_simp; all_goals with_reducible rfl
                simp only [Act.put, List.setIfInBounds_toArray, List.set_cons_zero, List.set_cons_succ]
                refine till_take0 2 (some 124) (v := ?va2) rfl rfl (by kernel_rfl) (by kernel_rfl) (by kernel_rfl) (fun _ _ _ h => h) (Or.inl ⟨by rfl, ?ya2⟩) trivial ?ra2
                case ya2 => intro w' _; go_simp; all_goals with_reducible rfl
                simp only [Act.put, List.setIfInBounds_toArray, List.set_cons_zero, List.set_cons_succ]
                refine till_take 3 (some 125) (v := ?va3) rfl rfl (by kernel_rfl) (by kernel_rfl) (by kernel_rfl) (by kernel_rfl) (fun _ _ _ h => h) (Or.inl ⟨by rfl, ?ya3⟩) hS ?ra3
                case ya3 => intro w' ⟨t1, t2, t3⟩; go_simp; all_goals with_reducible rfl
                simp only [Act.put, List.setIfInBounds_toArray, List.set_cons_zero, List.set_cons_succ]
                refine till_take 4 (some 126) (v := ?va4) rfl rfl (by kernel_rfl) (by kernel_rfl) (by kernel_rfl) (by kernel_rfl) (fun _ _ _ h => h) (Or.inl ⟨by rfl, ?ya4⟩) hS ?ra4
                case ya4 => intro w' ⟨t1, t2, t3⟩; go_simp; all_goals with_reducible rfl
                simp only [Act.put, List.setIfInBounds_toArray, List.set_cons_zero, List.set_cons_succ]
                obtain ⟨w2, es, cl, hrun, M2, hgm, hmm⟩ := link_update MD hnew.out
                have T2 := (Goes.refl GD.own GD.size).mapStep hmm hbm hgm
                have G2 := GD.trans T2
                have e0 := d0.goes T2
                have e1 := d1.goes T2
                refine till_one (i := 5) (by kernel_rfl) rfl rfl fun K hK => ?_
                go_simp
                refine hK _ _ (.inl (by simp)) id ?_
                clear hK K
                refine till_done (by kernel_rfl) ?_ _
                refine NoPanic.normal ?_
                clear hrun hmm hgm T2 GD d0 d1 MD hS
                go_wp2_with fail
                refine wp_region_noPanic ?_
                refine wp_region_till (by kernel_rfl) (fun W => W.cell? ⟨nb, 8, none⟩ = some (.slice la prs.length lc) ∧ W.cell? ⟨kb, 0, none⟩ = some (.int .i64 (k : Int)) ∧ W.cell? ⟨kb, 1, none⟩ = some (.int .i64 (j : Int))) (fun _ => True) [10] 11 rfl ?_
                have TD := (Goes.refl G2.own G2.size).drew
                have GE := G2.trans TD
                have d0 := e0.goes TD
                have d1 := e1.goes TD
                have ME := M2.kept (w' := w2.drew) (row := none) ⟨rfl, rfl, rfl, Nat.le_refl _, fun _ _ _ => rfl⟩ (by simp)
                obtain ⟨we, hwe⟩ : ∃ W, W = w2.drew := ⟨_, rfl⟩
                rw [← hwe] at GE d0 d1 ME ⊢
                clear hwe TD G2 e0 e1 M2
                have hS : we.cell? ⟨nb, 8, none⟩ = some (.slice la prs.length lc) ∧ we.cell? ⟨kb, 0, none⟩ = some (.int .i64 (k : Int)) ∧ we.cell? ⟨kb, 1, none⟩ = some (.int .i64 (j : Int)) := ⟨GE.own.box_cell 5 rfl 8 rfl, d0.1, d1.1⟩
                refine till_take0 0 (some 127) (v := ?vb0) rfl rfl (by kernel_rfl) (by kernel_rfl) (by kernel_rfl) (fun _ _ _ h => h) (Or.inl ⟨by rfl, ?yb0⟩) trivial ?rb0
                case yb0 => intro w' _; go_simp; all_goals with_reducible rfl
                simp only [Act.put, List.setIfInBounds_toArray, List.set_cons_zero, List.set_cons_succ]
                refine till_take0 1 (some 128) (v := ?vb1) rfl rfl (by kernel_rfl) (by kernel_rfl) (by kernel_rfl) (fun _ _ _ h => h) (Or.inl ⟨by rfl, ?yb1⟩) trivial ?rb1
                case yb1 => intro w' _; go_simp; all_goals with_reducible rfl
                simp only [Act.put, List.setIfInBounds_toArray, List.set_cons_zero, List.set_cons_succ]
                refine till_take0 2 (some 129) (v := ?vb2) rfl rfl (by kernel_rfl) (by kernel_rfl) (by kernel_rfl) (fun _ _ _ h => h) (Or.inl ⟨by rfl, ?yb2⟩) trivial ?rb2
                case yb2 => intro w' _; go_simp; all_goals with_reducible rfl
                simp only [Act.put, List.setIfInBounds_toArray, List.set_cons_zero, List.set_cons_succ]
                refine till_take0 3 (some 130) (v := ?vb3) rfl rfl (by kernel_rfl) (by kernel_rfl) (by kernel_rfl) (fun _ _ _ h => h) (Or.inl ⟨by rfl, ?yb3⟩) trivial ?rb3
                case yb3 => intro w' _; go_simp; all_goals with_reducible rfl
                simp only [Act.put, List.setIfInBounds_toArray, List.set_cons_zero, List.set_cons_succ]
                refine till_take 4 (some 131) (v := ?vb4) rfl rfl (by kernel_rfl) (by kernel_rfl) (by kernel_rfl) (by kernel_rfl) (fun _ _ _ h => h) (Or.inl ⟨by rfl, ?yb4⟩) hS ?rb4
                case yb4 => intro w' ⟨t1, t2, t3⟩; go_simp; all_goals with_reducible rfl
                simp only [Act.put, List.setIfInBounds_toArray, List.set_cons_zero, List.set_cons_succ]
                refine till_take 5 (some 132) (v := ?vb5) rfl rfl (by kernel_rfl) (by kernel_rfl) (by kernel_rfl) (by kernel_rfl) (fun _ _ _ h => h) (Or.inl ⟨by rfl, ?yb5⟩) hS ?rb5
                case yb5 => intro w' ⟨t1, t2, t3⟩; go_simp; all_goals with_reducible rfl
                simp only [Act.put, List.setIfInBounds_toArray, List.set_cons_zero, List.set_cons_succ]
                refine till_one (i := 6) (by kernel_rfl) rfl rfl fun K hK => ?_
                go_simp
                have GF := GE.alloc (.cells ([.int .i64 (k : Int), .int .i64 (j : Int)]).toArray 59)
                have MF := ME.kept (World.grownBy_alloc we (.cells ([.int .i64 (k : Int), .int .i64 (j : Int)]).toArray 59) none) (by simp)
                have nf := news_alloc we [.int .i64 (k : Int), .int .i64 (j : Int)] 59
                have TF := (Goes.refl GE.own GE.size).alloc (.cells ([.int .i64 (k : Int), .int .i64 (j : Int)]).toArray 59)
                have g0 := d0.goes TF
                have g1 := d1.goes TF
                refine hK _ _ (.inr (fun _ => ⟨cell_old hS.1 _, cell_old hS.2.1 _, cell_old hS.2.2 _⟩)) id ?_
                clear hK K
                (try simp only [Act.put, List.setIfInBounds_toArray, List.set_cons_zero, List.set_cons_succ])
                have hS2 := And.intro (cell_old hS.1 (.cells ([.int .i64 (k : Int), .int .i64 (j : Int)]).toArray 59)) (And.intro (cell_old hS.2.1 (.cells ([.int .i64 (k : Int), .int .i64 (j : Int)]).toArray 59)) (cell_old hS.2.2 (.cells ([.int .i64 (k : Int), .int .i64 (j : Int)]).toArray 59)))
                obtain ⟨nbk, hnbk⟩ : ∃ x, x = we.heap.size := ⟨_, rfl⟩
                obtain ⟨wf, hwf⟩ : ∃ W, W = we.alloc (.cells #[.int .i64 (k : Int), .int .i64 (j : Int)] 59) := ⟨_, rfl⟩
                rw [← hwf] at GF MF nf hS2 g0 g1
                rw [← hnbk] at nf
                rw [← hwf, ← hnbk]
                clear hwf hnbk GE ME hS d0 d1 TF
                refine till_one (i := 7) (by kernel_rfl) rfl rfl fun K hK => ?_
                refine wp_append_rowK wf rfl (.tmp 131) (.tmp 133) 53 53 rfl B 59 i59 (.agg #[.int .i64 0, .int .i64 0]) 2 16 Ybaf.underlying53 hi59 hz590 hz591 hz592 rfl (.slice la prs.length lc) prs.length (lxs prs) rfl (GF.own.get 0 rfl) _ 1 [.int .i64 (k : Int), .int .i64 (j : Int)] rfl (Src.ofSlice (P := Ybaf.prog) (size := 2) wf Ybaf.underlying53 ⟨nbk, 0, none⟩ 1 1 [.int .i64 (k : Int), .int .i64 (j : Int)] rfl nf (by intro u hu; simp at hu; rcases hu with rfl | rfl <;> rfl)) (max_ok (by omega)) (bytes_ok (by omega) (by decide)) GF.size ?_
                intro v3 w3 h1 h2 h3 h4 h5
                have G3 := GF.pushR 0 rfl h1 h2 h3 h4 (fun h => absurd h (by decide))
                have M3 := MF.row GF.own (i := 0) rfl h2
                obtain ⟨la2, lc2, hf3⟩ := h1.form
                subst hf3
                have hT := (show Goes B wf _ w3 _ from (Goes.refl GF.own GF.size).pushR 0 rfl h1 h2 h3 h4 (fun h => absurd h (by decide)))
                have hS3 : w3.cell? ⟨nb, 8, none⟩ = some (.slice la prs.length lc) := G3.own.box_cell 5 rfl 8 rfl
                have hF3 : w3.frozen? ⟨nb, 8, none⟩ = false := G3.own.box_frozen 5 rfl 8 (by simp [nwXs])
                refine hK _ _ (.inr (fun _ => ⟨hS3, (g0.goes hT).1, (g1.goes hT).1⟩)) id ?_
                clear hK K h1 h2 h3 h4 h5 nf GF MF hT g0 g1 hS2
                (try simp only [Act.put, List.setIfInBounds_toArray, List.set_cons_zero, List.set_cons_succ])
                refine till_take0 8 (some 135) (v := ?vc8) rfl rfl (by kernel_rfl) (by kernel_rfl) (by kernel_rfl) (fun _ _ _ h => h) (Or.inl ⟨by rfl, ?yc8⟩) trivial ?rc8
                case yc8 => intro w' _; go_simp; all_goals with_reducible rfl
                simp only [Act.put, List.setIfInBounds_toArray, List.set_cons_zero, List.set_cons_succ]
                refine till_take0 9 (some 136) (v := ?vc9) rfl rfl (by kernel_rfl) (by kernel_rfl) (by kernel_rfl) (fun _ _ _ h => h) (Or.inl ⟨by rfl, ?yc9⟩) trivial ?rc9
                case yc9 => intro w' _; go_simp; all_goals with_reducible rfl
                simp only [Act.put, List.setIfInBounds_toArray, List.set_cons_zero, List.set_cons_succ]
                have G4 := G3.setBox 5 rfl (by decide) 8 (by simp [nwXs]) (.slice la2 (prs.length + 1) lc2)
                have M4 := M3.row G3.own (i := 5) rfl (grown_setCell w3 nb 8 (.slice la2 (prs.length + 1) lc2))
                refine till_one (i := 10) (by kernel_rfl) rfl rfl fun K hK => ?_
                go_simp
                refine hK _ _ (.inl (by simp)) id ?_
                clear hK K
                refine till_done (by kernel_rfl) ?_ _
                refine NoPanic.normal ?_
                obtain ⟨w4, hw4⟩ : ∃ W, W = w3.setCell ⟨nb, 8, none⟩ (.slice la2 (prs.length + 1) lc2) := ⟨_, rfl⟩
                have gY : Goes B w [] w4 (⟨59, 2, .slice la2 (prs.length + 1) lc2, prs.length + 1, lxs (prs ++ [(k, j)])⟩ :: rowOf 3 (.slice (some ⟨db, 0, none⟩) g g) (ivs dl) :: BL nb ib ins false (.map (some mb)) (.slice la2 (prs.length + 1) lc2) (.slice ga pn gc) grv pv GL g pn gxs) := by rw [hw4, lxs_snoc]; exact G4
                rw [← hw4] at M4
                rw [← hw4]
                clear hw4 G4 G3 M3 hS3 hF3
                have HDL : Hid (dl.length = g) := HDV.out.1
                obtain ⟨x, hx⟩ : ∃ x, x = dl[k]'(by have := HDL.out; omega) := ⟨_, rfl⟩
                have hx16 : x ≤ 16 := by
                  rw [hx, HDV.out.2 k (by have := HDL.out; omega)]
                  have := cntP_le prs k
                  omega
                have ekx : (ivs dl)[k]? = some (.int .i64 (x : Int)) := by rw [hx]; simp [ivs, List.getElem?_eq_getElem (show k < dl.length by have := HDL.out; omega)]; rfl
                have ck := (gY.cellAt 1 (e := 3) (g := db) (n := g) (cap := g) (xs := ivs dl) rfl k ekx).1
                have fk := (gY.cellAt 1 (e := 3) (g := db) (n := g) (cap := g) (xs := ivs dl) rfl k ekx).2
                have gZ0 := gY.setAt 1 (e := 3) (g := db) (n := g) (cap := g) (xs := ivs dl) rfl (by decide) k (.int .i64 ((x : Int) + 1))
                have M5 := M4.row gY.own (i := 1) rfl (grown_setCell w4 db k (.int .i64 ((x : Int) + 1)))
                have hkg : (k : Int) < (g : Int) := by omega
                have hwx : IntKind.i64.wrap ((x : Int) + 1) = (x : Int) + 1 := by rw [IntKind.wrap_i64]; omega
                obtain ⟨d1, hd1⟩ : ∃ l, l = dl.set k (x + 1) := ⟨_, rfl⟩
                have HD1 : Hid (d1.length = g ∧ ∀ a (ha : a < d1.length), d1[a] = cntP prs a + if k = a then 1 else 0) := by
                  refine ⟨by rw [hd1, List.length_set]; exact HDL.out, fun a ha => ?_⟩
                  subst hd1
                  rw [List.getElem_set]
                  split
                  · rename_i h
                    subst h
                    rw [hx, HDV.out.2 k (by have := HDL.out; omega)]
                  · rw [HDV.out.2 a (by simpa using ha)]
                    rfl
                have eiv : (ivs dl).set k (.int .i64 ((x : Int) + 1)) = ivs d1 := by rw [hd1]; unfold ivs; rw [List.map_set]; rfl
                rw [eiv] at gZ0
                clear eiv hd1 ekx hx HDV HDL
                go_upto_region 37 with fail
                obtain ⟨w5, hw5⟩ : ∃ W, W = w4.setCell ⟨db, k, none⟩ (.int .i64 ((x : Int) + 1)) := ⟨_, rfl⟩
                have gZ : Goes B w [] w5 (⟨59, 2, .slice la2 (prs.length + 1) lc2, prs.length + 1, lxs (prs ++ [(k, j)])⟩ :: rowOf 3 (.slice (some ⟨db, 0, none⟩) g g) (ivs d1) :: BL nb ib ins false (.map (some mb)) (.slice la2 (prs.length + 1) lc2) (.slice ga pn gc) grv pv GL g pn gxs) := by rw [hw5]; exact gZ0
                rw [← hw5] at M5
                rw [← hw5]
                clear hw5 gZ0 gY M4 ck fk hwx hx16
                obtain ⟨y, hy⟩ : ∃ y, y = d1[j]'(by have := HD1.out.1; omega) := ⟨_, rfl⟩
                have hy16 : y ≤ 17 := by
                  rw [hy, HD1.out.2 j (by have := HD1.out.1; omega)]
                  have := cntP_le prs j
                  split <;> omega
                have eky : (ivs d1)[j]? = some (.int .i64 (y : Int)) := by rw [hy]; simp [ivs, List.getElem?_eq_getElem (show j < d1.length by have := HD1.out.1; omega)]; rfl
                have ck := (gZ.cellAt 1 (e := 3) (g := db) (n := g) (cap := g) (xs := ivs d1) rfl j eky).1
                have fk := (gZ.cellAt 1 (e := 3) (g := db) (n := g) (cap := g) (xs := ivs d1) rfl j eky).2
                have gU := gZ.setAt 1 (e := 3) (g := db) (n := g) (cap := g) (xs := ivs d1) rfl (by decide) j (.int .i64 ((y : Int) + 1))
                have M6 := M5.row gZ.own (i := 1) rfl (grown_setCell w5 db j (.int .i64 ((y : Int) + 1)))
                have hwy : IntKind.i64.wrap ((y : Int) + 1) = (y : Int) + 1 := by rw [IntKind.wrap_i64]; omega
                obtain ⟨d2, hd2⟩ : ∃ l, l = d1.set j (y + 1) := ⟨_, rfl⟩
                have HD2 : Hid (d2.length = g ∧ ∀ a (ha : a < d2.length), d2[a] = cntP (prs ++ [(k, j)]) a) := by
                  refine ⟨by rw [hd2, List.length_set]; exact HD1.out.1, fun a ha => ?_⟩
                  subst hd2
                  rw [List.getElem_set, cntP_snoc]
                  split
                  · rename_i h
                    subst h
                    rw [hy, HD1.out.2 j (by have := HD1.out.1; omega)]
                  · rename_i h
                    rw [HD1.out.2 a (by simpa using ha)]
                    rfl
                have eiv : (ivs d1).set j (.int .i64 ((y : Int) + 1)) = ivs d2 := by rw [hd2]; unfold ivs; rw [List.map_set]; rfl
                rw [eiv] at gU
                clear eiv hd2 eky hy HD1
                have HGU : Hid (Goes B w [] (w5.setCell ⟨db, j, none⟩ (.int .i64 ((y : Int) + 1))) (⟨59, 2, .slice la2 (prs.length + 1) lc2, prs.length + 1, lxs (prs ++ [(k, j)])⟩ :: rowOf 3 (.slice (some ⟨db, 0, none⟩) g g) (ivs d2) :: BL nb ib ins false (.map (some mb)) (.slice la2 (prs.length + 1) lc2) (.slice ga pn gc) grv pv GL g pn gxs)) := gU
                have HM6 : Hid (LinkMap (w5.setCell ⟨db, j, none⟩ (.int .i64 ((y : Int) + 1))) mb (prs ++ [(k, j)])) := M6
                clear gU gZ M5 M6
                go_wp2_with fail
                go_roundw
                case rel =>
                  refine ⟨j + 1, prs ++ [(k, j)], by omega, by omega, ?_, by go_num, ?_, fun p hp => ?_, ?_⟩
                  · have := HBIT.out; rw [show fa k + (j + 1 - k - 1) = bit + 1 by omega]; push_cast; rfl
                  · have := HBIT.out; have := HLO.out.1; simp; omega
                  · rcases List.mem_append.1 hp with h | h
                    · rcases HLO.out.2 p h with h | h
                      · exact .inl h
                      · exact .inr ⟨h.1, by omega⟩
                    · simp at h; subst h; exact .inr ⟨rfl, by simp⟩
                  · refine ⟨.slice la2 (prs.length + 1) lc2, d2, HD2.out.1, HD2.out.2, fun p hp => ?_, HM6.out, ?_⟩
                    · rcases List.mem_append.1 hp with h | h
                      · exact HPP.out p h
                      · simp at h; subst h; simp; omega
                    · rw [List.length_append]; exact HGU.out
                case measure => simp [intOf]; omega
            · have hjgi : decide ((j : Int) < (g : Int)) = false := decide_eq_false (by omega)
              clear hdl hdv hpp hM gW
              go_wp2_with fail
              go_roundw
              case rel =>
                refine ⟨j + 1, prs, by omega, by omega, ?_, by go_num, ?_, fun p hp => ?_, HC.out.2.2⟩
                · have := HBIT.out; rw [show fa k + (j + 1 - k - 1) = bit + 1 by omega]; push_cast; rfl
                · have := HBIT.out; have := HC.out.1; omega
                · rcases HC.out.2.1 p hp with h | h
                  · exact .inl h
                  · exact .inr ⟨h.1, by omega⟩
              case measure => simp [intOf]; omega
          · have hji : decide ((j : Int) < 4) = false := decide_eq_false (by omega)
            have hje : j = 4 := by omega
            subst hje
            go_wp2_with fail
            go_roundw
            case rel =>
              have ef : fa k + (4 - k - 1) = fa (k + 1) := by
                unfold fa
                obtain rfl | rfl | rfl | rfl : k = 0 ∨ k = 1 ∨ k = 2 ∨ k = 3 := by omega
                all_goals rfl
              refine ⟨k + 1, prs, hlt, by rw [ef], by go_num, ?_, fun p hp => ?_, HC.out.2.2⟩
              · rw [← ef]; exact HC.out.1
              · have := HC.out.2.1 p hp; omega
            case measure => simp [intOf]; omega
      · have hki : decide ((k : Int) < 4) = false := decide_eq_false (by omega)
        have hke : k = 4 := by omega
        subst hke
        obtain ⟨lv, dl, hdl, hdv, hpp, hM, gW⟩ := HC.out.2.2
        have hl6 : prs.length ≤ 6 := HC.out.1
        obtain ⟨la, lc, hlf⟩ := (show RowM wr B 59 2 lv prs.length (lxs prs) from gW.own.get 0 rfl).form
        subst hlf
        go_wp2_with fail
        go_ret3
        refine ⟨nb, db, g, ga, gc, prs, dl, by rw [← HPN.out]; rfl, ?_, hdl, nats_of_row (gW.rowAt 1 rfl), by rw [← HGL.out]; exact nats_of_row (gW.rowAt 2 rfl), by rw [← HB.out]; exact gW.below, (fun p hp => by have := hpp p hp; omega), hl6, fun a ha => hdv a ha, fun a => ?_, ?_⟩
        · refine bl_net HPL.out hg4.1 (gW.own.box_cell 5 rfl 2 rfl) (gW.own.get 3 rfl) HGR.out (gW.own.box_cell 5 rfl 4 rfl) (by rw [← HPN.out]; exact gW.own.get 4 rfl) (gW.own.box_cell 5 rfl 6 rfl) (fun _ => ⟨mb, gW.own.box_cell 5 rfl 7 rfl, hM⟩) (fun _ => ⟨la, lc, gW.own.box_cell 5 rfl 8 rfl, fun j hj => ?_⟩)
          obtain ⟨lb, hla, hcl⟩ := (show RowM wr B 59 2 (.slice la prs.length lc) prs.length (lxs prs) from gW.own.get 0 rfl).addr (by omega)
          exact ⟨lb, hla, hcl _ _ (lxs_get prs j hj).1, hcl _ _ (lxs_get prs j hj).2⟩
        · have := cntP_le prs a
          show cntP prs a ≤ 12
          omega
        · exact full_prs g _ dl prs HPL.out hg4.2 hdl hdv hpp

end YbulkaxksFmt
end Go.Proofs
