/-
  What the arguments' slices hold, cell by cell.
-/
import Derived.Test.YbulkaxhmFmtRows
import Derived.WalkKit
import Derived.ProofKit
import Derived.OpenShut
import Derived.Deep.Slices
import Derived.Deep.Strs
set_option linter.unusedVariables false
set_option linter.unusedSimpArgs false
namespace Go.Proofs.YbulkaxhmFmt
open Go.ChangeShapes Go.WideShapes Go.ChangeAt Go.RowKit Go.Deep

section
variable {H : Type} {enc : TypeId × Value → H} {P : Program} {w : World} {base : Nat} {spare : Nat → Bool} {held : Bool}

/-- A row of integers that is there. -/
def IntsAt (w : World) (k : IntKind) (ao : Option Addr) (zs : List Int) : Prop :=
  ∀ j (hj : j < zs.length), ∃ b off, ao = some ⟨b, off, none⟩ ∧ b < w.heap.size ∧ w.cell? ⟨b, off + j, none⟩ = some (.int k zs[j])

theorem IntsAt.later {w w' : World} {k : IntKind} {ao : Option Addr} {zs : List Int} (h : IntsAt w k ao zs) (hb : Below w.heap.size w w') : IntsAt w' k ao zs := by
  intro j hj
  obtain ⟨b, off, h1, h2, h3⟩ := h j hj
  exact ⟨b, off, h1, Nat.lt_of_lt_of_le h2 hb.size, (hb.cell (p := ⟨b, off + j, none⟩) h2).trans h3⟩

theorem u8_bounds {z : Int} (h : (Lit.int .u8 z).wf = true) : 0 ≤ z ∧ z ≤ 255 := by
  simpa [Lit.wf, IntKind.min, IntKind.max, IntKind.signed, IntKind.bits] using h
theorem u16_bounds {z : Int} (h : (Lit.int .u16 z).wf = true) : 0 ≤ z ∧ z ≤ 65535 := by
  simpa [Lit.wf, IntKind.min, IntKind.max, IntKind.signed, IntKind.bits] using h

theorem view_ints {t e : TypeId} {k : IntKind} {fuel : Nat} {cs : List Value} {x : DataW H × List MemPlace} (ht : P.underlying t = some (.slice e)) (he : P.underlying e = some (.int k)) (hc : P.cellsOf e = 1)
    (h : DataW.trod enc P w base spare held fuel t cs = some x) :
    ∃ ao zs cap, cs = [.slice ao zs.length cap] ∧ zs.length ≤ maxLen ∧ IntsAt w k ao zs ∧ ∀ z ∈ zs, (Lit.int k z).wf = true := by
  rcases open_ints ht he hc h with ⟨hcs, _⟩ | ⟨a, len, cap, zs, hcs, _, hl, hm, hz, _, hcell, hwz⟩
  · exact ⟨none, [], 0, hcs, by simp, fun j hj => absurd hj (Nat.not_lt_zero _), fun _ h => by cases h⟩
  · have hle : len ≤ zs.length := by rw [hz]; split <;> omega
    have hlt : (zs.take len).length = len := by rw [List.length_take]; omega
    refine ⟨some a, zs.take len, cap, by rw [hlt]; exact hcs, by rw [hlt]; omega, ?_, fun z hz' => hwz z (List.mem_of_mem_take hz')⟩
    intro j hj
    rw [hlt] at hj
    obtain ⟨b, off, rfl, hcc⟩ := ints_at hcell (by omega)
    have h1 := hcc j (by omega)
    refine ⟨b, off, rfl, World.block_lt_of_cell? w _ h1, ?_⟩
    rw [h1]
    simp [List.getD_eq_getElem?_getD, List.getElem?_eq_getElem (show j < zs.length by omega)]

/-- A label as it lies in memory. -/
structure Lab where
  oct : ByteArray
  pad : Int
  mao : Option Addr
  mcap : Nat
  modes : List Int

def LabAt (w : World) (b off : Nat) (l : Lab) : Prop :=
  w.cell? ⟨b, off, none⟩ = some (.string l.oct) ∧ w.cell? ⟨b, off + 1, none⟩ = some (.int .u8 l.pad) ∧ w.cell? ⟨b, off + 2, none⟩ = some (.slice l.mao l.modes.length l.mcap) ∧
    IntsAt w .u8 l.mao l.modes ∧ 0 ≤ l.pad ∧ l.pad ≤ 255 ∧ l.oct.size ≤ maxLen ∧ l.modes.length ≤ maxLen ∧ ∀ z ∈ l.modes, 0 ≤ z ∧ z ≤ 255

def LabsAt (w : World) (ao : Option Addr) (ls : List Lab) : Prop :=
  ∀ i (hi : i < ls.length), ∃ b off, ao = some ⟨b, off, none⟩ ∧ b < w.heap.size ∧ LabAt w b (off + i * 3) ls[i]

theorem LabsAt.later {w w' : World} {ao : Option Addr} {ls : List Lab} (h : LabsAt w ao ls) (hb : Below w.heap.size w w') : LabsAt w' ao ls := by
  intro i hi
  obtain ⟨b, off, h1, h2, a1, a2, a3, a4, a5⟩ := h i hi
  refine ⟨b, off, h1, Nat.lt_of_lt_of_le h2 hb.size, (hb.cell (p := ⟨b, _, none⟩) h2).trans a1, (hb.cell (p := ⟨b, _, none⟩) h2).trans a2, (hb.cell (p := ⟨b, _, none⟩) h2).trans a3, a4.later hb, a5⟩

theorem Ybaf.cells25 : Ybaf.prog.cellsOf 25 = 3 := by kernel_rfl
theorem Ybaf.cells9 : Ybaf.prog.cellsOf 9 = 1 := by kernel_rfl
theorem Ybaf.cells5 : Ybaf.prog.cellsOf 5 = 1 := by kernel_rfl
theorem Ybaf.cells23 : Ybaf.prog.cellsOf 23 = 1 := by kernel_rfl


/-- One label's three cells. -/
theorem view_lab {fuel b off : Nat} {cs : List Value} {x : DataW H × List MemPlace} (hcs : ∀ i, i < 3 → w.cell? ⟨b, off + i, none⟩ = cs[i]?)
    (h : DataW.trod enc Ybaf.prog w base spare held fuel 25 cs = some x) : ∃ l, LabAt w b off l := by
  obtain ⟨y0, y1, y2, n, _, hl, h0, h1, h2⟩ := trod_struct3 Ybaf.underlying25 h
  rw [Ybaf.cells25] at hl
  match cs, hl with
  | [c0, c1, c2], _ =>
    obtain ⟨s, e0, _, hs⟩ := DataW.trod_string Ybaf.underlying9 h0
    obtain ⟨p, e1, _, wp⟩ := DataW.trod_int Ybaf.underlying5 h1
    obtain ⟨ao, zs, cap, e2, hzl, hat, hz⟩ := view_ints Ybaf.underlying23 Ybaf.underlying5 Ybaf.cells5 h2
    simp [Ybaf.cells9] at e0
    simp [Ybaf.cells5] at e1
    simp [Ybaf.cells23] at e2
    subst e0; subst e1; subst e2
    refine ⟨⟨s, p, ao, cap, zs⟩, ?_, ?_, ?_, hat, (u8_bounds wp).1, (u8_bounds wp).2, hs, hzl, fun z hz' => u8_bounds (hz z hz')⟩
    · simpa using hcs 0 (by omega)
    · simpa using hcs 1 (by omega)
    · simpa using hcs 2 (by omega)

theorem view_labs {fuel : Nat} {cs : List Value} {x : DataW H × List MemPlace} (h : DataW.trod enc Ybaf.prog w base spare held fuel 22 cs = some x) :
    ∃ ao ls cap, cs = [.slice ao ls.length cap] ∧ ls.length ≤ maxLen ∧ LabsAt w ao ls := by
  rcases open_slice Ybaf.underlying22 h with ⟨hcs, _⟩ | ⟨a, len, cap, m, n, D, Pl, hcs, _, hl, hm, hmm, _, hel⟩
  · exact ⟨none, [], 0, hcs, by simp, fun i hi => absurd hi (Nat.not_lt_zero _)⟩
  · rw [Ybaf.cells25] at hel
    have hlm : len ≤ m := by rw [hmm]; split <;> omega
    have hex : ∀ i, i < len → ∃ l, ∃ b off, a = ⟨b, off, none⟩ ∧ b < w.heap.size ∧ LabAt w b (off + i * 3) l := by
      intro i hi
      obtain ⟨cs', h1, h2⟩ := hel i (by omega)
      obtain ⟨h0, g1, _⟩ := hel 0 (by omega)
      obtain ⟨_, hl0, hc0⟩ := World.cells?_some g1
      obtain ⟨_, hl1, hc1⟩ := World.cells?_some h1
      obtain ⟨b, off, spot⟩ := a
      have hx : w.cell? ((⟨b, off, spot⟩ : Addr)) = some (h0[0]'(by omega)) := by
        have := hc0 0 (by omega)
        simpa [Addr.add, List.getElem?_eq_getElem (show 0 < h0.length by omega)] using this
      have hspot : spot = none := by simpa using World.cell?_spot hx
      subst hspot
      have hadd : ∀ j, (⟨b, off, none⟩ : Addr).add j = ⟨b, off + j, none⟩ := fun j => by unfold Addr.add; split <;> simp_all
      have hc2 : ∀ j, j < 3 → w.cell? ⟨b, off + i * 3 + j, none⟩ = cs'[j]? := by
        intro j hj
        have := hc1 j hj
        rw [hadd] at this
        have hadd2 : (⟨b, off + i * 3, none⟩ : Addr).add j = ⟨b, off + i * 3 + j, none⟩ := by unfold Addr.add; split <;> simp_all
        rw [hadd2] at this
        exact this
      obtain ⟨l, hl'⟩ := view_lab hc2 h2
      exact ⟨l, b, off, rfl, World.block_lt_of_cell? w _ hl'.1, hl'⟩
    have hnon : Nonempty Lab := ⟨⟨⟨#[]⟩, 0, none, 0, []⟩⟩
    have : ∃ f : Nat → Lab, ∀ i, i < len → ∃ b off, a = ⟨b, off, none⟩ ∧ b < w.heap.size ∧ LabAt w b (off + i * 3) (f i) := by
      refine ⟨fun i => if hi : i < len then Classical.choose (hex i hi) else Classical.choice hnon, fun i hi => ?_⟩
      simp only [dif_pos hi]
      exact Classical.choose_spec (hex i hi)
    obtain ⟨f, hf⟩ := this
    refine ⟨some a, (List.range len).map f, cap, by simpa using hcs, by simp; omega, ?_⟩
    intro i hi
    simp at hi
    obtain ⟨b, off, rfl, h2, h3⟩ := hf i hi
    exact ⟨b, off, rfl, h2, by simpa using h3⟩
end
end Go.Proofs.YbulkaxhmFmt
