/-
  What the two cards share: the input's cells, the table of healths.
-/
import Derived.Test.YbulkaxksFmtLk
import Derived.Test.YbulkaxksFmtCards
import Derived.Test.YbulkaxksFmtTie
import Derived.ProofKit
import Derived.OpenShut
import Derived.OpenVars
import Derived.Deep.Slices
import Derived.Deep.Strs
import Derived.Stop.JoinedAt
import Derived.Stop.Texts
import Derived.Stop.JoinedTold
import Derived.SevenTiedAt
set_option linter.unusedVariables false
set_option linter.unusedSimpArgs false
namespace Go.Proofs.YbulkaxksFmt
open Go.ChangeShapes Go.WideShapes Go.ChangeAt Go.RowKit Go.Kit Go.Deep
open Go.Extern.Stop Go.Stop Go.Extern

theorem Ybaf.own : ownKnob Ybaf.prog.godebug = none := by kernel_rfl
theorem Ybaf.laidOut : laidOutB Ybaf.pinned.checked.prog = true := by kernel_rfl
theorem Ybaf.stops : Ybaf.pinned.checked.prog.stops = ["fmt.errorf"] := by kernel_rfl
theorem Ybaf.stopKnobs : Ybaf.pinned.checked.prog.stopKnobs = [] := by kernel_rfl
theorem Ybaf.quiet (os : Os) : Stop.quiet Ybaf.pinned.checked.prog os := by
  intro k hk
  rw [Ybaf.stopKnobs] at hk
  cases hk
theorem Ybaf.gH : Ybaf.prog.globalNamed "example.com/concordat/concordat.healths" = some 0 := by kernel_rfl
theorem Ybaf.gHType : (Ybaf.prog.globals[0]?).map (·.type) = some 61 := by kernel_rfl
theorem Ybaf.cells61 : Ybaf.prog.cellsOf 61 = 12 := by kernel_rfl
theorem Ybaf.cells60 : Ybaf.prog.cellsOf 60 = 3 := by kernel_rfl
theorem Ybaf.kcells5 : Ybaf.prog.cellsOf 5 = 1 := by kernel_rfl
theorem Ybaf.kcells22 : Ybaf.prog.cellsOf 22 = 1 := by kernel_rfl
theorem Ybaf.kcells23 : Ybaf.prog.cellsOf 23 = 1 := by kernel_rfl
theorem Ybaf.kcells4 : Ybaf.prog.cellsOf 4 = 1 := by kernel_rfl
theorem Ybaf.kcells9 : Ybaf.prog.cellsOf 9 = 1 := by kernel_rfl
theorem Ybaf.kcells25 : Ybaf.prog.cellsOf 25 = 15 := by kernel_rfl
theorem Ybaf.ku5 : Ybaf.prog.underlying 5 = some (.int .u8) := by kernel_rfl
theorem Ybaf.ku23 : Ybaf.prog.underlying 23 = some (.int .i8) := by kernel_rfl
theorem Ybaf.ku22 : Ybaf.prog.underlying 22 = some (.slice 5) := by kernel_rfl
theorem Ybaf.ku4 : Ybaf.prog.underlying 4 = some .bool := by kernel_rfl
theorem Ybaf.ku9 : Ybaf.prog.underlying 9 = some .string := by kernel_rfl
theorem Ybaf.ku61 : Ybaf.prog.underlying 61 = some (.array 4 60) := by kernel_rfl
def fieldsOf : Option TypeDesc → Option (List (TypeId × Nat))
  | some (.struct fs) => some (fs.toList.map fun f => (f.type, f.offset))
  | _ => none
theorem Ybaf.kf25 : fieldsOf (Ybaf.prog.underlying 25) = some [(5, 0), (22, 1), (4, 2), (5, 3), (5, 4), (5, 5), (23, 6), (23, 7), (23, 8), (23, 9), (23, 10), (5, 11), (5, 12), (5, 13), (5, 14)] := by kernel_rfl
theorem Ybaf.kf60 : fieldsOf (Ybaf.prog.underlying 60) = some [(9, 0), (4, 1), (4, 2)] := by kernel_rfl
theorem fieldsOf_struct {d : Option TypeDesc} {l : List (TypeId × Nat)} (h : fieldsOf d = some l) : ∃ fs : Array Field, d = some (.struct fs) ∧ fs.toList.map (fun f => (f.type, f.offset)) = l := by
  unfold fieldsOf at h
  split at h
  · rename_i fs
    injection h with h
    exact ⟨fs, rfl, h⟩
  · cases h

section
variable {H : Type} {enc : TypeId × Value → H} {P : Program} {w : World} {base : Nat} {spare : Nat → Bool} {held : Bool}

def IntsAt (w : World) (k : IntKind) (ao : Option Addr) (zs : List Int) : Prop :=
  ∀ j (hj : j < zs.length), ∃ b off, ao = some ⟨b, off, none⟩ ∧ b < w.heap.size ∧ w.cell? ⟨b, off + j, none⟩ = some (.int k zs[j])
theorem u8_bounds {z : Int} (h : (Lit.int .u8 z).wf = true) : 0 ≤ z ∧ z ≤ 255 := by
  simpa [Lit.wf, IntKind.min, IntKind.max, IntKind.signed, IntKind.bits] using h
theorem i8_bounds {z : Int} (h : (Lit.int .i8 z).wf = true) : -128 ≤ z ∧ z ≤ 127 := by
  simpa [Lit.wf, IntKind.min, IntKind.max, IntKind.signed, IntKind.bits] using h

theorem view_ints {t e : TypeId} {k : IntKind} {fuel : Nat} {cs : List Value} {x : DataW H × List MemPlace} (ht : P.underlying t = some (.slice e)) (he : P.underlying e = some (.int k)) (hc : P.cellsOf e = 1)
    (h : DataW.trod enc P w base spare held fuel t cs = some x) :
    ∃ ao zs cap, cs = [.slice ao zs.length cap] ∧ zs.length ≤ maxLen ∧ IntsAt w k ao zs ∧ ∀ z ∈ zs, (Lit.int k z).wf = true := by
  rcases open_ints ht he hc h with ⟨hcs, _⟩ | ⟨a, len, cap, zs, hcs, _, hl, hm, hz, _, hcell, hwz⟩
  · exact ⟨none, [], 0, hcs, by simp, fun j hj => absurd hj (Nat.not_lt_zero _), fun _ h => by cases h⟩
  · have hle : len ≤ zs.length := by rw [hz]; split <;> omega
    have hlt : (zs.take len).length = len := by rw [List.length_take]; omega
    refine ⟨some a, zs.take len, cap, by rw [hlt]; exact hcs, by rw [hlt]; omega, ?_, fun z hz' => hwz z (List.mem_of_mem_take hz')⟩
    intro j hj
    rw [hlt] at hj
    obtain ⟨b, off, rfl, hcc⟩ := ints_at hcell (by omega)
    have h1 := hcc j (by omega)
    refine ⟨b, off, rfl, World.block_lt_of_cell? w _ h1, ?_⟩
    rw [h1]
    simp [List.getD_eq_getElem?_getD, List.getElem?_eq_getElem (show j < zs.length by omega)]

/-- One field of a struct whose fields are one cell each. -/
theorem field_at {t : TypeId} {l : List (TypeId × Nat)} {fuel : Nat} {cs : List Value} {x : DataW H × List MemPlace} (hf : fieldsOf (P.underlying t) = some l) (h : DataW.trod enc P w base spare held fuel t cs = some x) :
    cs.length = P.cellsOf t ∧ ∃ n, ∀ (i : Nat) (u : TypeId) (o : Nat), l[i]? = some (u, o) → ∃ y, DataW.trod enc P w base spare held n u ((cs.drop o).take (P.cellsOf u)) = some y := by
  obtain ⟨fs, hu, hl⟩ := fieldsOf_struct hf
  obtain ⟨xs, n, _, _, hlen, hxl, hxs⟩ := DataW.trod_struct hu h
  refine ⟨hlen, n, fun i u o hi => ?_⟩
  rw [← hl, List.getElem?_map] at hi
  cases hfi : fs.toList[i]? with
  | none => rw [hfi] at hi; cases hi
  | some f =>
    rw [hfi] at hi
    injection hi with hi
    injection hi with h1 h2
    subst h1
    subst h2
    have hfi' : fs[i]? = some f := by simpa using hfi
    have hilt : i < xs.length := by rw [hxl]; exact (Array.getElem?_eq_some_iff.1 hfi').1
    exact ⟨xs[i], by rw [hxs i f hfi']; exact List.getElem?_eq_getElem hilt⟩
end

theorem list15 {cs : List Value} (h : cs.length = 15) : ∃ c0 c1 c2 c3 c4 c5 c6 c7 c8 c9 c10 c11 c12 c13 c14, cs = [c0, c1, c2, c3, c4, c5, c6, c7, c8, c9, c10, c11, c12, c13, c14] := by
  match cs, h with
  | [a0, a1, a2, a3, a4, a5, a6, a7, a8, a9, a10, a11, a12, a13, a14], _ => exact ⟨a0, a1, a2, a3, a4, a5, a6, a7, a8, a9, a10, a11, a12, a13, a14, rfl⟩

/-- The input, off its reading. -/
theorem view_in {H : Type} {enc : TypeId × Value → H} {w : World} {base : Nat} {spare : Nat → Bool} {held : Bool} {fuel : Nat} {cs : List Value} {x : DataW H × List MemPlace} (h : DataW.trod enc Ybaf.prog w base spare held fuel 25 cs = some x) :
    ∃ (G : Int) (sa : Option Addr) (zs : List Int) (zc : Nat) (all : Bool) (mask hh sr bg cn fg fu fl r0 r1 r2 r3 : Int), cs = (inXs G (.slice sa zs.length zc) all mask hh sr bg cn fg fu fl r0 r1 r2 r3).toList ∧ IntsAt w .u8 sa zs ∧ (∀ z ∈ zs, 0 ≤ z ∧ z ≤ 255) ∧
      (0 ≤ G ∧ G ≤ 255) ∧ (0 ≤ mask ∧ mask ≤ 255) ∧ (0 ≤ hh ∧ hh ≤ 255) ∧ (0 ≤ sr ∧ sr ≤ 255) ∧ (-128 ≤ bg ∧ bg ≤ 127) ∧ (-128 ≤ cn ∧ cn ≤ 127) ∧ (-128 ≤ fg ∧ fg ≤ 127) ∧ (-128 ≤ fu ∧ fu ≤ 127) ∧ (-128 ≤ fl ∧ fl ≤ 127) ∧
      (0 ≤ r0 ∧ r0 ≤ 255) ∧ (0 ≤ r1 ∧ r1 ≤ 255) ∧ (0 ≤ r2 ∧ r2 ≤ 255) ∧ (0 ≤ r3 ∧ r3 ≤ 255) := by
  obtain ⟨hl, n, hfs⟩ := field_at Ybaf.kf25 h
  rw [Ybaf.kcells25] at hl
  obtain ⟨k0, k1, k2, k3, k4, k5, k6, k7, k8, k9, k10, k11, k12, k13, k14, rfl⟩ := list15 hl
  have u8 : ∀ (i : Nat) (hi : ([(5, 0), (22, 1), (4, 2), (5, 3), (5, 4), (5, 5), (23, 6), (23, 7), (23, 8), (23, 9), (23, 10), (5, 11), (5, 12), (5, 13), (5, 14)] : List (TypeId × Nat))[i]? = some (5, i)), ∃ z, (([k0, k1, k2, k3, k4, k5, k6, k7, k8, k9, k10, k11, k12, k13, k14].drop i).take 1) = [.int .u8 z] ∧ 0 ≤ z ∧ z ≤ 255 := fun i hi => by
    obtain ⟨y, hy⟩ := hfs i 5 i hi
    rw [Ybaf.kcells5] at hy
    obtain ⟨z, e, _, wz⟩ := DataW.trod_int Ybaf.ku5 hy
    exact ⟨z, e, u8_bounds wz⟩
  have i8 : ∀ (i : Nat) (hi : ([(5, 0), (22, 1), (4, 2), (5, 3), (5, 4), (5, 5), (23, 6), (23, 7), (23, 8), (23, 9), (23, 10), (5, 11), (5, 12), (5, 13), (5, 14)] : List (TypeId × Nat))[i]? = some (23, i)), ∃ z, (([k0, k1, k2, k3, k4, k5, k6, k7, k8, k9, k10, k11, k12, k13, k14].drop i).take 1) = [.int .i8 z] ∧ -128 ≤ z ∧ z ≤ 127 := fun i hi => by
    obtain ⟨y, hy⟩ := hfs i 23 i hi
    rw [Ybaf.kcells23] at hy
    obtain ⟨z, e, _, wz⟩ := DataW.trod_int Ybaf.ku23 hy
    exact ⟨z, e, i8_bounds wz⟩
  obtain ⟨G, e0, q0⟩ := u8 0 rfl
  obtain ⟨mask, e3, q3⟩ := u8 3 rfl
  obtain ⟨hh, e4, q4⟩ := u8 4 rfl
  obtain ⟨sr, e5, q5⟩ := u8 5 rfl
  obtain ⟨bg, e6, q6⟩ := i8 6 rfl
  obtain ⟨cn, e7, q7⟩ := i8 7 rfl
  obtain ⟨fg, e8, q8⟩ := i8 8 rfl
  obtain ⟨fu, e9, q9⟩ := i8 9 rfl
  obtain ⟨fl, e10, q10⟩ := i8 10 rfl
  obtain ⟨r0, e11, q11⟩ := u8 11 rfl
  obtain ⟨r1, e12, q12⟩ := u8 12 rfl
  obtain ⟨r2, e13, q13⟩ := u8 13 rfl
  obtain ⟨r3, e14, q14⟩ := u8 14 rfl
  obtain ⟨y2, hy2⟩ := hfs 2 4 2 rfl
  rw [Ybaf.kcells4] at hy2
  obtain ⟨all, e2, _⟩ := DataW.trod_bool Ybaf.ku4 hy2
  obtain ⟨y1, hy1⟩ := hfs 1 22 1 rfl
  rw [Ybaf.kcells22] at hy1
  obtain ⟨sa, zs, zc, e1, _, hza, hzw⟩ := view_ints Ybaf.ku22 Ybaf.ku5 Ybaf.kcells5 hy1
  simp only [List.drop, List.take, List.cons.injEq, and_true] at e0 e1 e2 e3 e4 e5 e6 e7 e8 e9 e10 e11 e12 e13 e14
  subst e0 e1 e2 e3 e4 e5 e6 e7 e8 e9 e10 e11 e12 e13 e14
  exact ⟨G, sa, zs, zc, all, mask, hh, sr, bg, cn, fg, fu, fl, r0, r1, r2, r3, rfl, hza, fun z hz => u8_bounds (hzw z hz), q0, q3, q4, q5, q6, q7, q8, q9, q10, q11, q12, q13, q14⟩

/-- One row of the table of healths. -/
theorem health_entry {H : Type} {enc : TypeId × Value → H} {w : World} {base : Nat} {spare : Nat → Bool} {held : Bool} {fuel : Nat} {k0 k1 k2 : Value} {y : DataW H × List MemPlace} {s : List UInt8} {p l : Bool}
    (h : DataW.trod enc Ybaf.prog w base spare held fuel 60 [k0, k1, k2] = some y) (hy : y.1 = .agg [.lit (.string s), .lit (.bool p), .lit (.bool l)]) : (∃ s', k0 = .string s') ∧ k1 = .bool p ∧ k2 = .bool l := by
  obtain ⟨fs, hu, hl⟩ := fieldsOf_struct Ybaf.kf60
  obtain ⟨xs, n, _, rfl, hlen, hxl, hxs⟩ := DataW.trod_struct hu h
  have hsz : fs.size = 3 := by have := congrArg List.length hl; simpa using this
  rw [hsz] at hxl
  match xs, hxl with
  | [y0, y1, y2], _ =>
    have hf : ∀ (i : Nat) (u : TypeId) (o : Nat), ([(9, 0), (4, 1), (4, 2)] : List (TypeId × Nat))[i]? = some (u, o) → DataW.trod enc Ybaf.prog w base spare held n u (([k0, k1, k2].drop o).take (Ybaf.prog.cellsOf u)) = [y0, y1, y2][i]? := fun i u o hi => by
      rw [← hl, List.getElem?_map] at hi
      cases hfi : fs.toList[i]? with
      | none => rw [hfi] at hi; cases hi
      | some f =>
        rw [hfi] at hi
        injection hi with hi
        injection hi with h1 h2
        subst h1
        subst h2
        exact hxs i f (by simpa using hfi)
    have f0 := hf 0 9 0 rfl
    have f1 := hf 1 4 1 rfl
    have f2 := hf 2 4 2 rfl
    rw [Ybaf.kcells9] at f0
    rw [Ybaf.kcells4] at f1 f2
    simp only [List.drop, List.take] at f0 f1 f2
    obtain ⟨s', e0, _⟩ := DataW.trod_string Ybaf.ku9 f0
    obtain ⟨b1, e1, g1⟩ := DataW.trod_bool Ybaf.ku4 f1
    obtain ⟨b2, e2, g2⟩ := DataW.trod_bool Ybaf.ku4 f2
    simp at hy
    have hy1 := hy.2.1
    have hy2 := hy.2.2
    rw [g1] at hy1
    rw [g2] at hy2
    simp at e0 e1 e2 hy1 hy2
    subst e0 e1 e2 hy1 hy2
    exact ⟨⟨s', rfl⟩, rfl, rfl⟩

theorem list12 {cs : List Value} (h : cs.length = 12) : ∃ c0 c1 c2 c3 c4 c5 c6 c7 c8 c9 c10 c11, cs = [c0, c1, c2, c3, c4, c5, c6, c7, c8, c9, c10, c11] := by
  match cs, h with
  | [a0, a1, a2, a3, a4, a5, a6, a7, a8, a9, a10, a11], _ => exact ⟨a0, a1, a2, a3, a4, a5, a6, a7, a8, a9, a10, a11, rfl⟩

/-- The table of healths, off 'laid'. -/
theorem healths_of_laid {W : World} (h : laidMet Ybaf.prog [("example.com/concordat/concordat.healths", Rows.laid_example_com_concordat_concordat_healths)] W) : HealthsAt W := by
  obtain ⟨ps, ⟨g, t, cs, fuel, p, q, hg, ht, hvar, hd, _, _⟩, _⟩ := h
  obtain rfl := Option.some.inj (Ybaf.gH.symm.trans hg)
  obtain rfl := Option.some.inj (Ybaf.gHType.symm.trans ht)
  have hcell := World.var?_cell Ybaf.gH hvar
  obtain ⟨xs, m, _, hx, hlen, hxl, hxs⟩ := DataW.trod_array Ybaf.ku61 hd
  rw [Ybaf.cells61] at hlen
  obtain ⟨l⟩ := cs
  simp only [] at hlen hxs
  obtain ⟨k0, k1, k2, k3, k4, k5, k6, k7, k8, k9, k10, k11, rfl⟩ := list12 hlen
  rw [Ybaf.cells60] at hxs
  match xs, hxl with
  | [y0, y1, y2, y3], _ =>
    simp [Rows.laid_example_com_concordat_concordat_healths] at hx
    have f0 := hxs 0 (by decide)
    have f1 := hxs 1 (by decide)
    have f2 := hxs 2 (by decide)
    have f3 := hxs 3 (by decide)
    simp at f0 f1 f2 f3
    obtain ⟨⟨s0, rfl⟩, rfl, rfl⟩ := health_entry f0 hx.1.1.symm
    obtain ⟨⟨s1, rfl⟩, rfl, rfl⟩ := health_entry f1 hx.1.2.1.symm
    obtain ⟨⟨s2, rfl⟩, rfl, rfl⟩ := health_entry f2 hx.1.2.2.1.symm
    obtain ⟨⟨s3, rfl⟩, rfl, rfl⟩ := health_entry f3 hx.1.2.2.2.symm
    intro n hn
    obtain rfl | rfl | rfl | rfl : n = 0 ∨ n = 1 ∨ n = 2 ∨ n = 3 := by omega
    · exact ⟨s0, by simpa using hcell 0, by simpa [canP] using hcell 1, by simpa [canL] using hcell 2⟩
    · exact ⟨s1, by simpa using hcell 3, by simpa [canP] using hcell 4, by simpa [canL] using hcell 5⟩
    · exact ⟨s2, by simpa using hcell 6, by simpa [canP] using hcell 7, by simpa [canL] using hcell 8⟩
    · exact ⟨s3, by simpa using hcell 9, by simpa [canP] using hcell 10, by simpa [canL] using hcell 11⟩

end Go.Proofs.YbulkaxksFmt
