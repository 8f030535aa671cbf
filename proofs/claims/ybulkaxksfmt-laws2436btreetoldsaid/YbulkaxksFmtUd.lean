/-
  mapShapeUnder.
-/
import Derived.Test.YbulkaxksFmtUr
set_option linter.unusedVariables false
set_option linter.unusedSimpArgs false
namespace Go.Proofs
open Go.Extern.Stop Go.Stop Go.Extern Go.RowKit
namespace YbulkaxksFmt

theorem UnderPost.lower {B B0 : Nat} {w w0 : World} {g gs hn src : Nat} {D : Nat → Nat} {rounds few cn fu fg lev : Int} {corr fully : Bool} {e : Ending} {w' : World} (h : UnderPost B w g gs hn src D rounds few cn fu fg lev corr fully e w') (hb : Below B0 w0 w) (hB : B0 ≤ B) : UnderPost B0 w0 g gs hn src D rounds few cn fu fg lev corr fully e w' := by
  obtain ⟨sb, lb, k, tb, tc, pb, pc, fvc, eb, ec, pb0, pn, pc0, fva, bs, h1, h2, h3⟩ := h
  exact ⟨sb, lb, k, tb, tc, pb, pc, fvc, eb, ec, pb0, pn, pc0, fva, bs, h1, hb.trans (h2.mono hB), h3⟩

theorem roundsOf_le {h q0 q1 q2 q3 : Int} (c0 : 0 ≤ q0 ∧ q0 ≤ 4) (c1 : 0 ≤ q1 ∧ q1 ≤ 4) (c2 : 0 ≤ q2 ∧ q2 ≤ 4) (c3 : 0 ≤ q3 ∧ q3 ≤ 4) : 0 ≤ roundsOf h q0 q1 q2 q3 ∧ roundsOf h q0 q1 q2 q3 ≤ 4 := by
  unfold roundsOf
  repeat' split
  all_goals assumption

/-- The table of healths, in its block. -/
def HealthsAt (w : World) : Prop := ∀ h : Nat, h < 4 → ∃ s, w.cell? ⟨0, h * 3, none⟩ = some (.string s) ∧ w.cell? ⟨0, h * 3 + 1, none⟩ = some (.bool (canP (h : Int))) ∧ w.cell? ⟨0, h * 3 + 2, none⟩ = some (.bool (canL (h : Int)))

set_option maxRecDepth 1000000 in
set_option maxHeartbeats 40000000 in
theorem under_any (F : Interp) (nb src hn : Nat) (ps : List Nat) (all : Bool) (prs : List (Nat × Nat)) (bg cn fg fl fu q0 q1 q2 q3 : Int) (w : World) (hF : F.answers w.tape) (h : NetAt w nb ps all prs) (hp : ps.length ≤ 4) (h1p : 1 ≤ ps.length) (hps : ps.sum ≤ 12)
    (hpr : Hid (∀ p ∈ prs, p.1 < ps.length ∧ p.2 < ps.length ∧ p.1 ≠ p.2)) (hprl : prs.length ≤ 6) (hD : Hid (∀ a, degN ps all prs a ≤ 12)) (hsrc : src < ps.sum) (hh : hn < 4) (hH : Hid (HealthsAt w))
    (b1 : -128 ≤ bg ∧ bg ≤ 127) (b2 : -128 ≤ cn ∧ cn ≤ 127) (b3 : -128 ≤ fg ∧ fg ≤ 127) (b4 : -128 ≤ fu ∧ fu ≤ 127)
    (c0 : 0 ≤ q0 ∧ q0 ≤ 4) (c1 : 0 ≤ q1 ∧ q1 ≤ 4) (c2 : 0 ≤ q2 ∧ q2 ≤ 4) (c3 : 0 ≤ q3 ∧ q3 ≤ 4) :
    Calls Ybaf.prog 6 #[.pointer (some ⟨nb, 0, none⟩), .agg (bdXs bg cn fg fl fu q0 q1 q2 q3), .int .i64 (src : Int), .int .u8 (hn : Int)] w fun e w' => ∃ gs, (groupL 0 ps)[src]? = some gs ∧ UnderPost w.heap.size w ps.length gs hn src (degN ps all prs) (roundsOf (hn : Int) q0 q1 q2 q3) (2 * max (min fg fu) 0 + 1) cn fu fg (if corrOf (hn : Int) (fullB ps all prs) bg then roundsOf (hn : Int) q0 q1 q2 q3 - 1 else roundsOf (hn : Int) q0 q1 q2 q3) (corrOf (hn : Int) (fullB ps all prs) bg) (fullB ps all prs) e w' := by
  obtain ⟨hs, k0, k1, k2⟩ := hH.out hn hh
  have HN : Hid (NetAt w nb ps all prs) := h
  have HF : Hid (F.answers w.tape) := hF
  clear h hF
  have hi1 : (hn : Int) < 4 := by omega
  obtain ⟨fully, hfu⟩ : ∃ f, f = fullB ps all prs := ⟨_, rfl⟩
  have HFU : Hid (fully = fullB ps all prs) := hfu
  clear hfu
  unfold bdXs
  have k0' := cell_old k0
  have k1' := cell_old k1
  have k2' := cell_old k2
  obtain ⟨cl, hcl⟩ : ∃ c, c = canL (hn : Int) := ⟨_, rfl⟩
  obtain ⟨cp, hcp⟩ : ∃ c, c = canP (hn : Int) := ⟨_, rfl⟩
  rw [← hcl] at k2 k2'
  rw [← hcp] at k1 k1'
  have HCL : Hid (cl = canL (hn : Int)) := hcl
  have HCP : Hid (cp = canP (hn : Int)) := hcp
  clear hcl hcp
  have g0 := Goes.refl (Own.nil w w.heap.size) (Nat.le_refl _)
  go_enter Ybaf.func6, Ybaf.ntmps6
  go_upto_region 2 with fail
  have G1 := g0.cons (r := box 37 w.heap.size (bdXs bg cn fg fl fu q0 q1 q2 q3).toList) (box_new w w.heap.size 37 _ (Nat.le_refl _)) (World.grownBy_alloc _ _ none) (fun k hk => by simp [box, Value.ownBlock] at hk; omega)
  have G2 := G1.alloc (.cells #[.string hs, .bool cp, .bool cl] 60)
  have nk := news_alloc (w.alloc (.cells (bdXs bg cn fg fl fu q0 q1 q2 q3).toList.toArray 37)) [.string hs, .bool cp, .bool cl] 60
  simp only [add_zero_off] at nk
  have y1 := nk 1 _ rfl
  have y2 := nk 2 _ rfl
  obtain ⟨x2, hx2⟩ : ∃ W, W = ((w.alloc (Obj.cells #[.int .i64 bg, .int .i64 0, .int .i64 cn, .int .u8 0, .int .i64 fg, .int .i64 fl, .int .i64 fu, .int .i64 0, .int .i64 q0, .int .i64 q1, .int .i64 q2, .int .i64 q3] 37)).alloc (Obj.cells #[.string hs, .bool cp, .bool cl] 60)) := ⟨_, rfl⟩
  have hx2' : x2 = (w.alloc (.cells (bdXs bg cn fg fl fu q0 q1 q2 q3).toList.toArray 37)).alloc (.cells #[.string hs, .bool cp, .bool cl] 60) := hx2
  rw [← hx2'] at G2
  have e2 : (w.alloc (.cells (bdXs bg cn fg fl fu q0 q1 q2 q3).toList.toArray 37)).alloc (.cells [.string hs, .bool cp, .bool cl].toArray 60) = x2 := hx2'.symm
  rw [e2] at y1 y2
  have es : (w.alloc (.cells (bdXs bg cn fg fl fu q0 q1 q2 q3).toList.toArray 37)).heap.size = w.heap.size + 1 := by simp
  rw [es] at y1 y2
  rw [← hx2]
  have HNX : Hid (NetAt x2 nb ps all prs) := HN.out.below G2.below
  have HFX : Hid (F.answers x2.tape) := by show _; rw [hx2]; exact HF.out
  obtain ⟨bb, hbb⟩ : ∃ b, b = w.heap.size := ⟨_, rfl⟩
  have hb1 : bb + 1 = w.heap.size + 1 := by rw [hbb]
  have HB : Hid (bb = w.heap.size) := hbb
  rw [← hbb] at G2 y1 y2 ⊢
  clear hx2 hx2' e2 es nk k0 k1 k2 k0' k1' k2' G1 g0 hb1 hbb
  go_cut [11] (fun s11 wx => s11 = .bool (cl || (cp && !fully)) ∧ x2 = wx)
  case first =>
    cases cl <;> cases cp
    all_goals (go_wp2_with (go_at_call 9; refine (fully_any nb ps all prs x2 HNX.out hp h1p).mono ?_; rintro e w9 ⟨he, rfl⟩; rw [← HFU.out] at he; subst he))
    all_goals (go_meet; exact ⟨by simp, rfl⟩)
  case rest =>
    obtain ⟨rfl, rfl⟩ := hcut
    have a0 := G2.own.box_cell 0 rfl 0 rfl
    have a2 := G2.own.box_cell 0 rfl 2 rfl
    have a4 := G2.own.box_cell 0 rfl 4 rfl
    have a6 := G2.own.box_cell 0 rfl 6 rfl
    go_upto_region 4 with fail
    obtain ⟨fm, hfm⟩ : ∃ m, m = max (min fg fu) 0 := ⟨_, rfl⟩
    have HFM : Hid (fm = max (min fg fu) 0) := hfm
    have hfmb : 0 ≤ fm ∧ fm ≤ 127 := by omega
    rw [← hfm]
    clear hfm
    obtain ⟨cc, hcc⟩ : ∃ c, c = (cl || cp && !fully) := ⟨_, rfl⟩
    have HCC : Hid (corrOf (hn : Int) fully bg = (cc && decide (1 < bg))) := by
      show _ = _
      unfold corrOf
      rw [hcc, HCL.out, HCP.out]
    rw [← hcc]
    clear hcc
    have HRo := rounds_any bg cn fg fl fu q0 q1 q2 q3 (hn : Int) x2 ⟨by omega, by omega⟩
    unfold bdXs at HRo
    have hRb := roundsOf_le (h := (hn : Int)) c0 c1 c2 c3
    obtain ⟨R, hR⟩ : ∃ R, R = roundsOf (hn : Int) q0 q1 q2 q3 := ⟨_, rfl⟩
    have HR : Hid (R = roundsOf (hn : Int) q0 q1 q2 q3) := hR
    rw [← hR] at HRo hRb
    clear hR
    have hw1 : IntKind.i64.wrap (2 * fm) = 2 * fm := by rw [IntKind.wrap_i64]; omega
    have hw2 : IntKind.i64.wrap (2 * fm + 1) = 2 * fm + 1 := by rw [IntKind.wrap_i64]; omega
    have a1 := G2.own.box_cell 0 rfl 1 rfl
    have a3 := G2.own.box_cell 0 rfl 3 rfl
    have a5 := G2.own.box_cell 0 rfl 5 rfl
    have a7 := G2.own.box_cell 0 rfl 7 rfl
    have a8 := G2.own.box_cell 0 rfl 8 rfl
    have a9 := G2.own.box_cell 0 rfl 9 rfl
    have a10 := G2.own.box_cell 0 rfl 10 rfl
    have a11 := G2.own.box_cell 0 rfl 11 rfl
    obtain ⟨cr, hcr⟩ : ∃ c, c = (cc && decide (1 < bg)) := ⟨_, rfl⟩
    have HCR : Hid (cr = (cc && decide (1 < bg))) := hcr
    go_cut [13, 14] (fun s13 s14 wx => ∃ x3 sb rb lo gs off k W, s13 = .pointer (some ⟨sb, 0, none⟩) ∧ s14 = .nilIface ∧ (groupL 0 ps)[src]? = some gs ∧ Goes bb w [] x3 [box 37 bb (bdXs bg cn fg fl fu q0 q1 q2 q3).toList] ∧ (((k : Nat) : Int) = 0 ∨ (k : Int) ≤ (if cr then R - 1 else R) - 1) ∧ (if cr then R - 1 else R) - 1 ≤ (k : Int) ∧ C3Rel x3.heap.size x3 ps.length lo rb sb ps (degN ps all prs) gs (shXs rb R src off cr (2 * fm + 1) (fullB ps all prs)) k W wx)
    case first =>
      have HSh := fun (x3 : World) (hbl : Below x2.heap.size x2 x3) => shape_any F nb src ps all prs R (2 * fm + 1) cr x3 (by rw [hbl.tape]; exact HFX.out) (HNX.out.below hbl) hp h1p hps hpr hprl hD hsrc hRb
      cases cc
      · simp only [Bool.false_and] at hcr
        subst hcr
        go_wp2_with (first | (go_at_call 11; refine HRo.mono ?_; rintro e x3 ⟨rfl, hbl⟩; have b0 := (G2.grown (Below.asGrown hbl)).own.box_cell 0 rfl 0 rfl) | (go_at_call 10; refine (HSh x3 hbl).mono ?_; rintro e x4 ⟨sb, rb, lo, gs, off, hgs, rfl, k, W, hk1, hk2, hC⟩))
        go_meet
        exact ⟨x3, sb, rb, lo, gs, off, k, W, rfl, rfl, hgs, by have := G2.grown (Below.asGrown hbl); exact this, hk1, hk2, hC⟩
      · simp only [Bool.true_and] at hcr
        cases cr
        · have hbg : decide (1 < bg) = false := hcr.symm
          clear hcr
          go_wp2_with (first | (go_at_call 11; refine HRo.mono ?_; rintro e x3 ⟨rfl, hbl⟩; have b0 := (G2.grown (Below.asGrown hbl)).own.box_cell 0 rfl 0 rfl) | (go_at_call 10; refine (HSh x3 hbl).mono ?_; rintro e x4 ⟨sb, rb, lo, gs, off, hgs, rfl, k, W, hk1, hk2, hC⟩))
          go_meet
          exact ⟨x3, sb, rb, lo, gs, off, k, W, rfl, rfl, hgs, G2.grown (Below.asGrown hbl), hk1, hk2, hC⟩
        · have hbg : 1 < bg := of_decide_eq_true hcr.symm
          clear hcr
          go_wp2_with (first | (go_at_call 11; refine HRo.mono ?_; rintro e x3 ⟨rfl, hbl⟩; have b0 := (G2.grown (Below.asGrown hbl)).own.box_cell 0 rfl 0 rfl) | (go_at_call 10; refine (HSh x3 hbl).mono ?_; rintro e x4 ⟨sb, rb, lo, gs, off, hgs, rfl, k, W, hk1, hk2, hC⟩))
          go_meet
          exact ⟨x3, sb, rb, lo, gs, off, k, W, rfl, rfl, hgs, G2.grown (Below.asGrown hbl), hk1, hk2, hC⟩
    case rest =>
      obtain ⟨x3, sb, rb, lo, gs, off, k, W, rfl, rfl, hgs, G3, hk1, hk2, hC⟩ := hcut
      have hk4 : k ≤ 4 := by split at hk1 <;> omega
      rename_i KK hKK
      refine hKK _ _ ?_
      refine Code.wp_mono ?_ (under_rest x3.heap.size nb bb src hn sb rb ps.length lo gs k ps (degN ps all prs) bg cn fg fl fu q0 q1 q2 q3 R (2 * fm + 1) (if cr then R - 1 else R) W cr (fullB ps all prs) off x3 _ _ _ _ _ _ _ _ _ _ _ _ _ _ _ _ _ _ _ _ _ _ _ _ _ _ _ _ _ _ _ _ _ _ _ _ _ _ _ _ _ _ _ _ _ _ _ _ _ _ _ _ _ _ _ _ _ _ _ _ _ _ _ _ _ _ _ _ _ _ _ _ _ _ _ _ _ _ _ _ _ _ _ _ _ _ _ _ _ _ _ _ _ _ _ _ _ _ _ _ _ _ _ _ _ _ _ _ _ _ _ _ _ _ _ _ _ _ _ _ _ rfl rfl hp hD b2 (G3.own.box_cell 0 rfl 2 rfl) (G3.own.box_cell 0 rfl 4 rfl) (G3.own.box_cell 0 rfl 6 rfl) ⟨hk1, hk2⟩ hk4 hC)
      refine bodyPost_mono fun e w' hh => ⟨gs, hgs, ?_⟩
      have hh2 := hh.lower (B0 := w.heap.size) (w0 := w) (by rw [← HB.out]; exact G3.below) (by rw [← HB.out]; exact G3.size)
      rw [← HFU.out, HCC.out, ← HCR.out, ← HR.out, ← HFM.out]
      rw [← HFU.out] at hh2
      exact hh2

end YbulkaxksFmt
end Go.Proofs
