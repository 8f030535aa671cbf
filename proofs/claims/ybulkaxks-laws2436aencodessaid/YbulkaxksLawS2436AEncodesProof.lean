/-
  The proof of 'Rows.LawS2436AEncodesSaid', out of the shell that the kit's tool wrote for it; the walk is ours.
-/
import Derived.Test.YbulkaxksRows
import Derived.Test.YbulkaxksEnc
import Derived.WalkKit
import Derived.ProofKit
import Derived.OpenShut
import Derived.ShutString
import Derived.ChangeOld
import Derived.Below
namespace Go.Proofs.Ybulkaxks.lawS2436AEncodes
open Go.ChangeShapes Go.WideShapes Go.ChangeAt Go.RowKit
open Go.ChangeMaps (open_string shut_string)
open Go.Proofs.Ybulkaxks
set_option linter.unusedVariables false

theorem own : ownKnob Yba.prog.godebug = none := by kernel_rfl
theorem laidOut : laidOutB Yba.prog = true := by kernel_rfl

/-- WHAT THE WALK IS TOLD OF A SLICE OF INTEGERS THAT CAME IN: it is nil; or it leads to a row of 'cap' cells, the numbers 'zs' (the first 'len' are its elements, the rest its spare room), each fitting its kind. -/
def IsRow (k : IntKind) (w : World) (a : Option Addr) (len cap : Nat) (zs : List Int) : Prop :=
  (a = none ∧ len = 0 ∧ cap = 0 ∧ zs = []) ∨
  ∃ x, a = some x ∧ len ≤ cap ∧ cap ≤ maxLen ∧ zs.length = cap ∧ (∀ i, i < zs.length → w.cell? (x.add i) = some (.int k (zs.getD i 0))) ∧ ∀ n ∈ zs, (Lit.int k n).wf = true

theorem nums_of {k : IntKind} {w : World} {a : Option Addr} {len cap : Nat} {zs : List Int} (h : IsRow k w a len cap zs) : Nums k w a len zs ∧ len ≤ zs.length := by
  rcases h with ⟨rfl, rfl, rfl, rfl⟩ | ⟨x, rfl, hl, hm, hz, hc, _⟩
  · exact ⟨fun i hi => absurd hi (Nat.not_lt_zero _), Nat.le_refl _⟩
  · exact ⟨fun i hi => ⟨x, rfl, hc i (by omega)⟩, by omega⟩

/-! ### STEP 1: THE WALK: the Go text returns true, AND WRITES NOTHING THAT WAS THERE. -/
theorem walk (a0 : Option Addr) (len0 cap0 : Nat) (z0 : List Int) (a1 : Option Addr) (len1 cap1 : Nat) (z1 : List Int) (w : World) (w0 : IsRow .u8 w a0 len0 cap0 z0) (w1 : IsRow .i64 w a1 len1 cap1 z1) :
    Calls Yba.prog 3 #[.slice a0 len0 cap0, .slice a1 len1 cap1] w fun e w' => e = .returned (.bool true) ∧ Below w.heap.size w w' := by
  by_cases h0 : len0 ≤ 1024
  · by_cases h1 : len1 ≤ 1024
    · obtain ⟨n0, l0⟩ := nums_of w0
      obtain ⟨n1, l1⟩ := nums_of w1
      obtain ⟨X, hX⟩ : ∃ X, X = (z0.take len0).map (Value.int .u8) := ⟨_, rfl⟩
      have hXl : X.length = len0 := by rw [hX]; simp; omega
      have hX1 : ∀ u ∈ X, ∃ z, u = .int .u8 z := by
        intro u hu
        rw [hX] at hu
        simp only [List.mem_map] at hu
        obtain ⟨z, _, rfl⟩ := hu
        exact ⟨z, rfl⟩
      have hXc : ∀ ad : Addr, a0 = some ad → ∀ j u, X[j]? = some u → w.cell? (ad.add j) = some u := by
        intro ad had j u hu
        have hj : j < len0 := by have := (List.getElem?_eq_some_iff.1 hu).1; omega
        obtain ⟨x, hx, hc⟩ := n0 j hj
        rw [had] at hx
        obtain rfl := Option.some.inj hx
        rw [hc, ← hu, hX]
        simp [hj, List.getD_eq_getElem?_getD, List.getElem?_eq_getElem (show j < z0.length by omega)]
      obtain ⟨C, hC⟩ : ∃ C, C = X ++ q32 len1 ++ encI (z1.take len1) := ⟨_, rfl⟩
      have hCl : C.length = len0 + 4 + 4 * len1 := by
        rw [hC, List.length_append, List.length_append, length_encI, hXl, List.length_take, Nat.min_eq_left l1]; rfl
      have hCi : ∀ u ∈ C, ∃ z, u = .int .u8 z := by
        intro u hu
        rw [hC, List.mem_append, List.mem_append] at hu
        rcases hu with (hu | hu) | hu
        · exact hX1 u hu
        · exact ints_q32 _ u hu
        · exact ints_encI _ u hu
      cases a0 with
      | none =>
        obtain ⟨e0, e1⟩ : len0 = 0 ∧ cap0 = 0 := by
          rcases w0 with ⟨_, h, h', _⟩ | ⟨x, hx, _⟩
          · exact ⟨h, h'⟩
          · cases hx
        exact enc_none len0 cap0 X a1 len1 cap1 z1 C w e0 e1 h0 h1 l1 hXl hXc hX1 hC hCl hCi n1
      | some x0 => exact enc_some x0 len0 cap0 X a1 len1 cap1 z1 C w h0 h1 l1 hXl hXc hX1 hC hCl hCi n1
    · clear w0 w1
      have t0 : decide ((1024 : Int) < (len0 : Int)) = false := decide_eq_false (by omega)
      have t1 : decide ((1024 : Int) < (len1 : Int)) = true := decide_eq_true (by omega)
      go_enter Yba.func3, Yba.ntmps3
      go_wp2
      go_ret
      exact ⟨rfl, Below.refl _ _⟩
  · clear w0 w1
    have t0 : decide ((1024 : Int) < (len0 : Int)) = true := decide_eq_true (by omega)
    go_enter Yba.func3, Yba.ntmps3
    go_wp2
    go_ret
    exact ⟨rfl, Below.refl _ _⟩

/-! ### THE ROW's STEP: WRITTEN OUT: LEAVE IT -/
set_option maxRecDepth 100000 in
theorem lifted (os : Os) (started : os.Started) (H : Type) (enc : TypeId × Value → H) :
    ReturnsInHanded {} Yba.checked os 3 .any (Rows.lawS2436AEncodesSpec.pre6 enc Yba.prog Yba.f3 Rows.lawS2436AEncodesRow.domain false) (Rows.lawS2436AEncodesSpec.post enc Yba.prog Yba.f3 false true false false) := by
  refine returnsInHanded_of_change (C := Yba.checked) own started (by kernel_rfl) Yba.func3
    (ChangeSpec.witness6 (enc := enc) (C := Yba.checked) false ⟨#[], #[.slice none 0 0, .slice none 0 0], []⟩ 8 (by kernel_rfl) (by kernel_rfl) (by kernel_rfl) (by kernel_rfl)) ?_
  intro W base args ds gs before hval0 hW hcnd _
  have hval : ∀ (j : Nat) t v, Yba.f3.params[j]? = some t → args[j]? = some v → Value.okWide Yba.prog W .any base t v := hval0
  have hW' := hW
  obtain ⟨p, q, hA0, hV, rfl, hfz, hnd⟩ := hW
  have hA : DataW.TrodAll enc Yba.prog W 0 (fun _ => true) true Yba.f3.params.toList args.toList ds p := hA0
  rw [Yba.params3] at hA hval
  obtain ⟨v0, vs0, d0, ds0, p0, q0, hargs, rfl, rfl, h0, r0⟩ := trodAll_cons hA
  obtain ⟨v1, vs1, d1, ds1, p1, q1, rfl, rfl, rfl, h1, r1⟩ := trodAll_cons r0
  obtain ⟨rfl, rfl, rfl⟩ := trodAll_nil r1
  obtain rfl : args = #[v0, v1] := by cases args; simp_all
  obtain ⟨rfl, rfl⟩ := trodVars_none hV
  obtain ⟨a0, len0, cap0, rfl⟩ := okWide_slice Yba.underlying22 (hval 0 22 v0 rfl rfl)
  have k0 := h0
  have lt0 : ∀ x ∈ p0, x.block < W.heap.size := by obtain ⟨m, hm⟩ := k0; exact DataW.trod_lt m _ _ _ hm
  obtain ⟨z0, w0⟩ : ∃ zs, IsRow .u8 W a0 len0 cap0 zs := by
    obtain ⟨fuel, hf⟩ := h0
    rcases open_ints Yba.underlying22 Yba.underlying5 (by kernel_rfl) hf with ⟨hcs, _⟩ | ⟨x, l, c, zs, hcs, _, hl, hm, hz, _, hcell, hwz⟩
    · simp [Value.cells] at hcs
      obtain ⟨rfl, rfl, rfl⟩ := hcs
      exact ⟨[], .inl ⟨rfl, rfl, rfl, rfl⟩⟩
    · simp [Value.cells] at hcs
      obtain ⟨rfl, rfl, rfl⟩ := hcs
      exact ⟨zs, .inr ⟨_, rfl, hl, hm, by simpa using hz, hcell, hwz⟩⟩
  obtain ⟨a1, len1, cap1, rfl⟩ := okWide_slice Yba.underlying23 (hval 1 23 v1 rfl rfl)
  have k1 := h1
  have lt1 : ∀ x ∈ p1, x.block < W.heap.size := by obtain ⟨m, hm⟩ := k1; exact DataW.trod_lt m _ _ _ hm
  obtain ⟨z1, w1⟩ : ∃ zs, IsRow .i64 W a1 len1 cap1 zs := by
    obtain ⟨fuel, hf⟩ := h1
    rcases open_ints Yba.underlying23 Yba.underlying3 (by kernel_rfl) hf with ⟨hcs, _⟩ | ⟨x, l, c, zs, hcs, _, hl, hm, hz, _, hcell, hwz⟩
    · simp [Value.cells] at hcs
      obtain ⟨rfl, rfl, rfl⟩ := hcs
      exact ⟨[], .inl ⟨rfl, rfl, rfl, rfl⟩⟩
    · simp [Value.cells] at hcs
      obtain ⟨rfl, rfl, rfl⟩ := hcs
      exact ⟨zs, .inr ⟨_, rfl, hl, hm, by simpa using hz, hcell, hwz⟩⟩
  clear hA0 hval0
  refine (walk a0 len0 cap0 z0 a1 len1 cap1 z1 W w0 w1).mono fun e W' ⟨he, bel⟩ => ?_
  subst he
  exact ⟨_, rfl, _, _, _, [], _, [], hW', trodAll_mk1 (shut_bool Yba.underlying4 _), (trodAll_cons_mk (Below.trod laidOut (by kernel_rfl) (of_decide_eq_true (by kernel_rfl)) k0 bel lt0) (trodAll_cons_mk (Below.trod laidOut (by kernel_rfl) (of_decide_eq_true (by kernel_rfl)) k1 bel lt1) trodAll_mk0)), rfl, bel.frame _, fun h => by cases h⟩

theorem over : Rows.lawS2436AEncodesRow.holds Yba.pinned (OpenSpec.ofChange Rows.lawS2436AEncodesSpec) :=
  OpenClaim.holds_of_wide 3 Yba.f3 rfl rfl rfl rfl rfl rfl rfl ⟨rfl, rfl, rfl, rfl, rfl⟩ rfl rfl rfl rfl rfl (by kernel_rfl) Yba.func3 (by kernel_rfl)
    (of_decide_eq_true (by kernel_rfl)) (by unfold Func.isWrapper; first | (rw [if_pos (by decide +kernel)]; kernel_rfl) | (rw [if_neg (by decide +kernel)]; exact ⟨rfl, rfl⟩))
    (fun os started H enc _ => lifted os started H enc)

/-- ████ THE STATEMENT ████ -/
theorem proved : Rows.LawS2436AEncodesSaid := over
#print axioms proved
end Go.Proofs.Ybulkaxks.lawS2436AEncodes
