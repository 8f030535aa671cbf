/-
  The told card of LawS2430CDecodes.
-/
import Derived.Test.YbulkaxhmFmtDec
import Derived.Test.YbulkaxhmFmtLift
set_option linter.unusedVariables false
set_option linter.unusedSimpArgs false
namespace Go.Proofs.YbulkaxhmFmt
open Go.ChangeShapes Go.WideShapes Go.ChangeAt Go.RowKit Go.Kit
open Go.Extern.Stop Go.Stop Go.Extern

theorem u8_byte' {z : Int} (h : 0 ≤ z ∧ z ≤ 255) : ∃ c : UInt8, z = (c.toNat : Int) := ⟨UInt8.ofNat z.toNat, by simp; omega⟩

set_option maxRecDepth 100000 in
theorem dec_lifted (os : Os) (started : os.Started) (H : Type) (enc : TypeId × Value → H) :
    ReturnsInTold none {} Ybaf.checked os 5 .any Input.okWide ((OpenSpec.ofChange Rows.lawS2430CDecodesSpec).preRow enc Ybaf.prog Ybaf.f5 [] false []) (fun F => ((OpenSpec.ofChange Rows.lawS2430CDecodesSpec).at F).post enc Ybaf.prog Ybaf.f5 false true false false) (aloneAtReturn Ybaf.prog) nothingAlways := by
  refine returnsInTold_of_row (C := Ybaf.checked) (s := OpenSpec.ofChange Rows.lawS2430CDecodesSpec) (by kernel_rfl) Ybaf.own started (by kernel_rfl) Ybaf.func5
    (OpenSpec.witness_stopped (enc := enc) (C := Ybaf.checked) false ⟨#[], #[.int .u8 0, .slice none 0 0, .slice none 0 0, .bool false, .slice none 0 0], []⟩ 8 (by kernel_rfl) (by kernel_rfl) (by kernel_rfl) (by kernel_rfl)) ?_
  intro F W base args ds gs before _ hF hval0 hW _ _ _ _ _
  have hval : ∀ (j : Nat) t v, Ybaf.f5.params[j]? = some t → args[j]? = some v → Value.okWide Ybaf.prog W .any base t v := hval0
  have hW' := hW
  obtain ⟨p, q, hA0, hV, rfl, hfz, hnd⟩ := hW
  have hA : DataW.TrodAll enc Ybaf.prog W 0 (fun _ => true) true Ybaf.f5.params.toList args.toList ds p := hA0
  rw [Ybaf.params5] at hA hval
  obtain ⟨v0, vs0, d0, ds0, p0, q0, ha0, rfl, rfl, h0, hR0⟩ := trodAll_cons hA
  obtain ⟨v1, vs1, d1, ds1, p1, q1, rfl, rfl, rfl, h1, hR1⟩ := trodAll_cons hR0
  obtain ⟨v2, vs2, d2, ds2, p2, q2, rfl, rfl, rfl, h2, hR2⟩ := trodAll_cons hR1
  obtain ⟨v3, vs3, d3, ds3, p3, q3, rfl, rfl, rfl, h3, hR3⟩ := trodAll_cons hR2
  obtain ⟨v4, vs4, d4, ds4, p4, q4, rfl, rfl, rfl, h4, hR4⟩ := trodAll_cons hR3
  obtain ⟨rfl, rfl, rfl⟩ := trodAll_nil hR4
  have hargs : args = #[v0, v1, v2, v3, v4] := by cases args; simp_all
  subst hargs
  obtain ⟨rfl, rfl⟩ := trodVars_none hV
  obtain ⟨f0, t0⟩ := h0
  obtain ⟨f1, t1⟩ := h1
  obtain ⟨f2, t2⟩ := h2
  obtain ⟨f3, t3⟩ := h3
  obtain ⟨f4, t4⟩ := h4
  obtain ⟨z0, rfl⟩ := okWide_int Ybaf.underlying5 (hval 0 5 v0 rfl rfl)
  obtain ⟨a1, l1, c1, rfl⟩ := okWide_slice Ybaf.underlying36 (hval 1 36 v1 rfl rfl)
  obtain ⟨a2, l2, c2, rfl⟩ := okWide_slice Ybaf.underlying37 (hval 2 37 v2 rfl rfl)
  obtain ⟨b3, rfl⟩ := okWide_bool Ybaf.underlying4 (hval 3 4 v3 rfl rfl)
  obtain ⟨a3, l3, c3, rfl⟩ := okWide_slice Ybaf.underlying38 (hval 4 38 v4 rfl rfl)
  have k0 := t0
  obtain ⟨z, e0, _, w0⟩ := DataW.trod_int Ybaf.underlying5 t0
  have hz : z0 = z := by simpa [Value.cells] using e0
  subst hz
  obtain ⟨fl, rfl⟩ := u8_byte' (u8_bounds w0)
  obtain ⟨qao, qs, qcap, e1, hql, hqs⟩ := view_qs t1
  obtain ⟨oao, ots, ocap, e2, hol, hos, hoz⟩ := view_ints Ybaf.underlying37 Ybaf.underlying59 Ybaf.cells59 t2
  obtain ⟨pao, ops, pcap, e3, hpl, hps⟩ := view_os t4
  have e1' : Value.slice a1 l1 c1 = .slice qao qs.length qcap := by simpa [Value.cells] using e1
  have e2' : Value.slice a2 l2 c2 = .slice oao ots.length ocap := by simpa [Value.cells] using e2
  have e3' : Value.slice a3 l3 c3 = .slice pao ops.length pcap := by simpa [Value.cells] using e3
  injection e1' with x1 x2 x3
  subst x1; subst x2; subst x3
  injection e2' with x1 x2 x3
  subst x1; subst x2; subst x3
  injection e3' with x1 x2 x3
  subst x1; subst x2; subst x3
  refine (dec_any F.told fl a1 qs c1 a2 ots c2 b3 a3 ops c3 W hF hqs hos (fun z hz => u16_bounds (hoz z hz)) hps hql hol hpl).mono fun e W' ⟨he, hw⟩ => ?_
  subst he
  have hlt : ∀ x ∈ p0 ++ (p1 ++ (p2 ++ (p3 ++ (p4 ++ [])))), x.block < W.heap.size := fun x hx => by simpa using hW'.lt x (by simpa using hx)
  refine ⟨_, rfl, _, _, _, [], p0 ++ (p1 ++ (p2 ++ (p3 ++ (p4 ++ [])))), [], hW', ?_, ?_, rfl, hw.frame _, fun h => by cases h⟩
  · exact trodAll_mk1 (shut_bool Ybaf.underlying4 true)
  · exact trodAll_cons_mk (Below.trod Ybaf.laidOut (by kernel_rfl) (of_decide_eq_true (by kernel_rfl)) ⟨f0, t0⟩ hw (fun x hx => hlt x (by simp [hx])))
      (trodAll_cons_mk (Below.trod Ybaf.laidOut (by kernel_rfl) (of_decide_eq_true (by kernel_rfl)) ⟨f1, t1⟩ hw (fun x hx => hlt x (by simp [hx])))
      (trodAll_cons_mk (Below.trod Ybaf.laidOut (by kernel_rfl) (of_decide_eq_true (by kernel_rfl)) ⟨f2, t2⟩ hw (fun x hx => hlt x (by simp [hx])))
      (trodAll_cons_mk (Below.trod Ybaf.laidOut (by kernel_rfl) (of_decide_eq_true (by kernel_rfl)) ⟨f3, t3⟩ hw (fun x hx => hlt x (by simp [hx])))
      (trodAll_cons_mk (Below.trod Ybaf.laidOut (by kernel_rfl) (of_decide_eq_true (by kernel_rfl)) ⟨f4, t4⟩ hw (fun x hx => hlt x (by simp [hx]))) trodAll_mk0))))

theorem dec_told : Rows.LawS2430CDecodesToldSaid :=
  Claim7.holds_of_told_any 5 Ybaf.f5 "fmt.errorf" [] [] _ _ _ (by kernel_rfl) rfl rfl rfl Ybaf.laidOut (by kernel_rfl) rfl ⟨rfl, rfl, rfl, rfl, rfl, rfl, rfl⟩ rfl rfl (by kernel_rfl) (by kernel_rfl) Ybaf.func5 (by kernel_rfl)
    (of_decide_eq_true (by kernel_rfl)) (of_decide_eq_true (by kernel_rfl)) Ybaf.stops.symm rfl Ybaf.stopKnobs.symm (by kernel_rfl)
    (by kernel_rfl) (by kernel_rfl) (by kernel_rfl) (by kernel_rfl) (by kernel_rfl) (by kernel_rfl) (by kernel_rfl) (by kernel_rfl) (by kernel_rfl) rfl (by kernel_rfl) rfl rfl
    rfl rfl
    rfl (by kernel_rfl) (by kernel_rfl) (by kernel_rfl) (by decide) (by kernel_rfl)
    (OpenClaim.moreEntering_of (by kernel_rfl) (by kernel_rfl) (by kernel_rfl) (by kernel_rfl) (by kernel_rfl) (by kernel_rfl) (by kernel_rfl) (by kernel_rfl) (by kernel_rfl) (by kernel_rfl))
    ⟨_, WideRow.started_initial, Ybaf.quiet _⟩
    (fun os started _ H enc _ => dec_lifted os started H enc)

end Go.Proofs.YbulkaxhmFmt
