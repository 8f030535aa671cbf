/-
  The told and tied card of LawS2436BTree.
-/
import Derived.Test.YbulkaxksFmtTe
import Derived.Test.YbulkaxksFmtCd
set_option linter.unusedVariables false
set_option linter.unusedSimpArgs false
namespace Go.Proofs.YbulkaxksFmt
open Go.ChangeShapes Go.WideShapes Go.ChangeAt Go.RowKit Go.Kit
open Go.Extern.Stop Go.Stop Go.Extern

def cells12 : Array Value := #[.string ⟨#[103, 101, 110, 101, 114, 97, 108]⟩, .bool true, .bool true, .string ⟨#[102, 97, 117, 108, 116, 45, 102, 114, 101, 101]⟩, .bool false, .bool false, .string ⟨#[108, 105, 110, 107, 115]⟩, .bool false, .bool true, .string ⟨#[112, 114, 111, 99, 101, 115, 115, 111, 114, 115]⟩, .bool true, .bool false]
noncomputable def laidWorld (os : Os) : World :=
  { World.holding Ybaf.prog os ⟨#[], #[], []⟩ with heap := (World.holding Ybaf.prog os ⟨#[], #[], []⟩).heap.modify 0 fun
      | .cells _ t frozen => .cells cells12 t frozen
      | o => o }
theorem laid_met (os : Os) (args : Array Value) : laidMet Ybaf.prog Rows.lawS2436BTreeRow.laid ((laidWorld os).forCall (fun _ _ => 0) ⟨#[], args, []⟩).memory :=
  laidMet_of_run (ps := [.cell 0 0, .cell 0 1, .cell 0 2, .cell 0 3, .cell 0 4, .cell 0 5, .cell 0 6, .cell 0 7, .cell 0 8, .cell 0 9, .cell 0 10, .cell 0 11]) 8 (by kernel_rfl) (by kernel_rfl) (by kernel_rfl)

set_option maxRecDepth 100000 in
theorem lifted (os : Os) (started : os.Started) (H : Type) (enc : TypeId × Value → H) :
    ReturnsInTold none {} Ybaf.checked os 4 .any Input.okWide ((OpenSpec.ofChange Rows.lawS2436BTreeSpec).preRow enc Ybaf.prog Ybaf.f4 [] false Rows.lawS2436BTreeRow.laid) (fun F => ((OpenSpec.ofChange Rows.lawS2436BTreeSpec).at F).post enc Ybaf.prog Ybaf.f4 false true false false) (aloneAtReturn Ybaf.prog) nothingAlways := by
  refine returnsInTold_of_row (C := Ybaf.checked) (s := OpenSpec.ofChange Rows.lawS2436BTreeSpec) (by kernel_rfl) Ybaf.own started (by kernel_rfl) Ybaf.func4
    (OpenSpec.witness_stopped_at (enc := enc) (C := Ybaf.checked) false (laidWorld os) #[.agg #[.int .u8 0, .slice none 0 0, .bool false, .int .u8 0, .int .u8 0, .int .u8 0, .int .i8 0, .int .i8 0, .int .i8 0, .int .i8 0, .int .i8 0, .int .u8 0, .int .u8 0, .int .u8 0, .int .u8 0]] rfl (by kernel_rfl) (by kernel_rfl) (by kernel_rfl)
      (OpenSpec.preRow_of_B rfl 8 (by kernel_rfl) (by kernel_rfl) (laid_met os _))) ?_
  intro F W base args ds gs before _ hF hval0 hW _ _ _ hL _
  have hval : ∀ (j : Nat) t v, Ybaf.f4.params[j]? = some t → args[j]? = some v → Value.okWide Ybaf.prog W .any base t v := hval0
  have hW' := hW
  obtain ⟨p, q, hA0, hV0, rfl, hfz, hnd⟩ := hW
  have hA : DataW.TrodAll enc Ybaf.prog W 0 (fun _ => true) true Ybaf.f4.params.toList args.toList ds p := hA0
  have hV : DataW.TrodVars enc Ybaf.prog W (fun _ => true) ["example.com/concordat/concordat.healths"] gs q := hV0
  have hpar : Ybaf.f4.params = #[25] := by kernel_rfl
  rw [hpar] at hA hval
  obtain ⟨v0, d0, rfl, rfl, h0⟩ := trodAll_one hA
  obtain ⟨f0, t0⟩ := h0
  obtain ⟨fs, hu, -⟩ := fieldsOf_struct Ybaf.kf25
  obtain ⟨cs, rfl, hcs⟩ := okWide_struct hu (hval 0 25 v0 rfl rfl)
  have t0' : DataW.trod enc Ybaf.prog W 0 (fun _ => true) true f0 25 cs.toList = some (d0, p) := by simpa [Value.cells] using t0
  obtain ⟨G, sa, zs, zc, all, mask, hh, sr, bg, cn, fg, fu, fl, r0, r1, r2, r3, hce, hza, hzb, qG, qm, qh, qs, qbg, qcn, qfg, qfu, qfl, q0, q1, q2, q3⟩ := view_in t0'
  have hce' : cs = inXs G (.slice sa zs.length zc) all mask hh sr bg cn fg fu fl r0 r1 r2 r3 := Array.ext' hce
  have hH : HealthsAt W := healths_of_laid hL
  have hlt : ∀ x ∈ p ++ q, x.block < W.heap.size := fun x hx => hW'.lt x (by simpa using hx)
  have key := tree_any F.told G sa zs zc all mask hh sr bg cn fg fu fl r0 r1 r2 r3 W hF hH qG qm hza hzb qh qs qbg qcn qfg qfu qfl q0 q1 q2 q3
  rw [← hce'] at key
  refine key.mono fun e W' ⟨he, hw⟩ => ?_
  subst he
  obtain ⟨gh, th, csh, fh, dh, ph, rfl, -⟩ := trodVars_one hV
  refine ⟨_, rfl, _, _, _, [], p, q, hW', ?_, ?_, ?_, hw.frame _, fun h => by cases h⟩
  · exact trodAll_mk1 (shut_bool Ybaf.ku4 true)
  · exact trodAll_mk1 (Below.trod Ybaf.laidOut (by kernel_rfl) (of_decide_eq_true (by kernel_rfl)) ⟨f0, t0⟩ hw (fun x hx => hlt x (by simp [hx])))
  · exact Below.trodVars Ybaf.laidOut hw (by kernel_rfl) hV

theorem tree_told : Rows.LawS2436BTreeToldSaid :=
  Claim7.holds_of_told_tied_any_at .later 4 Ybaf.f4 "fmt.errorf" [] [] _ _ _ _ _ (by kernel_rfl) rfl rfl rfl Ybaf.laidOut (by kernel_rfl) rfl ⟨rfl, rfl, rfl, rfl, rfl, rfl, rfl⟩ rfl rfl (by kernel_rfl) (by kernel_rfl) Ybaf.func4 (by kernel_rfl)
    (of_decide_eq_true (by kernel_rfl)) (of_decide_eq_true (by kernel_rfl)) Ybaf.stops.symm rfl Ybaf.stopKnobs.symm (by kernel_rfl)
    (by kernel_rfl) (by kernel_rfl) (by kernel_rfl) (by kernel_rfl) (by kernel_rfl) (by kernel_rfl) (by kernel_rfl) (by kernel_rfl) (by kernel_rfl) rfl (by kernel_rfl) rfl rfl
    rfl rfl
    rfl (by kernel_rfl) (by kernel_rfl) (by kernel_rfl) (by decide) (by kernel_rfl) lawS2436BTree_row_tie
    (OpenClaim.moreEntering_of (by kernel_rfl) (by kernel_rfl) (by kernel_rfl) (by kernel_rfl) (by kernel_rfl) (by kernel_rfl) (by kernel_rfl) (by kernel_rfl) (by kernel_rfl) (by kernel_rfl))
    ⟨_, WideRow.started_initial, Ybaf.quiet _⟩
    (fun os started _ H enc _ => lifted os started H enc)

end Go.Proofs.YbulkaxksFmt
