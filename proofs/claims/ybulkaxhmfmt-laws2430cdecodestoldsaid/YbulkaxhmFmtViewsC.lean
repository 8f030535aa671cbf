/-
  What the arguments of the C laws hold, cell by cell.
-/
import Derived.Test.YbulkaxhmFmtViews
set_option linter.unusedVariables false
set_option linter.unusedSimpArgs false
namespace Go.Proofs.YbulkaxhmFmt
open Go.ChangeShapes Go.WideShapes Go.ChangeAt Go.RowKit Go.Deep

section
variable {H : Type} {enc : TypeId × Value → H} {P : Program} {w : World} {base : Nat} {spare : Nat → Bool} {held : Bool}

theorem Ybaf.cells28 : Ybaf.prog.cellsOf 28 = 1 := by kernel_rfl
theorem Ybaf.cells59 : Ybaf.prog.cellsOf 59 = 1 := by kernel_rfl
theorem Ybaf.cells61 : Ybaf.prog.cellsOf 61 = 3 := by kernel_rfl
theorem Ybaf.cells67 : Ybaf.prog.cellsOf 67 = 2 := by kernel_rfl

def BArrsAt (w : World) (ao : Option Addr) (ss : List ByteArray) : Prop :=
  ∀ j (hj : j < ss.length), ∃ b off, ao = some ⟨b, off, none⟩ ∧ b < w.heap.size ∧ w.cell? ⟨b, off + j, none⟩ = some (.string ss[j]) ∧ ss[j].size ≤ maxLen

theorem BArrsAt.later {w w' : World} {ao : Option Addr} {ss : List ByteArray} (h : BArrsAt w ao ss) (hb : Below w.heap.size w w') : BArrsAt w' ao ss := by
  intro j hj
  obtain ⟨b, off, h1, h2, h3, h4⟩ := h j hj
  exact ⟨b, off, h1, Nat.lt_of_lt_of_le h2 hb.size, (hb.cell (p := ⟨b, off + j, none⟩) h2).trans h3, h4⟩

/-- From 'each element of the slice lies there as some x' to one list. -/
theorem elems_list {α : Type} {a : Addr} {len sz : Nat} {p : Nat → Nat → α → Prop} (hex : ∀ i, i < len → ∃ x b off, a = ⟨b, off, none⟩ ∧ b < w.heap.size ∧ p b (off + i * sz) x) :
    ∃ xs : List α, xs.length = len ∧ ∀ i (hi : i < xs.length), ∃ b off, a = ⟨b, off, none⟩ ∧ b < w.heap.size ∧ p b (off + i * sz) xs[i] := by
  rcases Nat.eq_zero_or_pos len with h0 | h0
  · exact ⟨[], by simp [h0], fun i hi => absurd hi (Nat.not_lt_zero _)⟩
  · have hnon : Nonempty α := let ⟨x, _⟩ := hex 0 h0; ⟨x⟩
    have : ∃ f : Nat → α, ∀ i, i < len → ∃ b off, a = ⟨b, off, none⟩ ∧ b < w.heap.size ∧ p b (off + i * sz) (f i) := by
      refine ⟨fun i => if hi : i < len then Classical.choose (hex i hi) else Classical.choice hnon, fun i hi => ?_⟩
      simp only [dif_pos hi]
      exact Classical.choose_spec (hex i hi)
    obtain ⟨f, hf⟩ := this
    refine ⟨(List.range len).map f, by simp, fun i hi => ?_⟩
    simp at hi
    obtain ⟨b, off, h1, h2, h3⟩ := hf i hi
    exact ⟨b, off, h1, h2, by simpa using h3⟩

/-- The cells of element i of a slice, at a plain address. -/
theorem elem_cells {a : Addr} {i sz : Nat} {cs cs0 : List Value} (hsz : 0 < sz) (h0 : w.cells? base (a.add (0 * sz)) sz = some cs0) (h1 : w.cells? base (a.add (i * sz)) sz = some cs) :
    ∃ b off, a = ⟨b, off, none⟩ ∧ b < w.heap.size ∧ cs.length = sz ∧ ∀ j, j < sz → w.cell? ⟨b, off + i * sz + j, none⟩ = cs[j]? := by
  obtain ⟨_, hl0, hc0⟩ := World.cells?_some h0
  obtain ⟨_, hl1, hc1⟩ := World.cells?_some h1
  obtain ⟨b, off, spot⟩ := a
  have hx : w.cell? ((⟨b, off, spot⟩ : Addr)) = some (cs0[0]'(by omega)) := by
    have := hc0 0 hsz
    simpa [Addr.add, List.getElem?_eq_getElem (show 0 < cs0.length by omega)] using this
  have hspot : spot = none := by simpa using World.cell?_spot hx
  subst hspot
  refine ⟨b, off, rfl, World.block_lt_of_cell? w _ hx, hl1, fun j hj => ?_⟩
  have := hc1 j hj
  have hadd : ∀ j, (⟨b, off, none⟩ : Addr).add j = ⟨b, off + j, none⟩ := fun j => by unfold Addr.add; split <;> simp_all
  have hadd2 : (⟨b, off + i * sz, none⟩ : Addr).add j = ⟨b, off + i * sz + j, none⟩ := by unfold Addr.add; split <;> simp_all
  rw [hadd, hadd2] at this
  exact this

theorem view_strs {t : TypeId} {fuel : Nat} {cs : List Value} {x : DataW H × List MemPlace} (ht : Ybaf.prog.underlying t = some (.slice 9)) (h : DataW.trod enc Ybaf.prog w base spare held fuel t cs = some x) :
    ∃ ao ss cap, cs = [.slice ao ss.length cap] ∧ ss.length ≤ maxLen ∧ BArrsAt w ao ss := by
  rcases open_slice ht h with ⟨hcs, _⟩ | ⟨a, len, cap, m, n, D, Pl, hcs, _, hl, hm, hmm, _, hel⟩
  · exact ⟨none, [], 0, hcs, by simp, fun i hi => absurd hi (Nat.not_lt_zero _)⟩
  · rw [Ybaf.cells9] at hel
    have hlm : len ≤ m := by rw [hmm]; split <;> omega
    obtain ⟨xs, hxl, hxs⟩ := elems_list (w := w) (a := a) (len := len) (sz := 1) (p := fun b o s => w.cell? ⟨b, o, none⟩ = some (.string s) ∧ s.size ≤ maxLen) (fun i hi => by
      obtain ⟨cs', h1, h2⟩ := hel i (by omega)
      obtain ⟨cs0, g1, _⟩ := hel 0 (by omega)
      obtain ⟨b, off, ha, hb, hlen, hc⟩ := elem_cells (by decide) g1 h1
      obtain ⟨s, e0, _, hs⟩ := DataW.trod_string Ybaf.underlying9 h2
      exact ⟨s, b, off, ha, hb, by have := hc 0 (by decide); rw [e0] at this; simpa using this, hs⟩)
    refine ⟨some a, xs, cap, by rw [hxl]; exact hcs, by omega, fun j hj => ?_⟩
    obtain ⟨b, off, h1, h2, h3, h4⟩ := hxs j hj
    exact ⟨b, off, by rw [h1], h2, by simpa using h3, h4⟩

structure QV where
  lao : Option Addr
  lcap : Nat
  labels : List ByteArray
  ty : Int
  cl : Int

def QAt (w : World) (b off : Nat) (q : QV) : Prop :=
  w.cell? ⟨b, off, none⟩ = some (.slice q.lao q.labels.length q.lcap) ∧ w.cell? ⟨b, off + 1, none⟩ = some (.int .u16 q.ty) ∧ w.cell? ⟨b, off + 2, none⟩ = some (.int .u16 q.cl) ∧
    BArrsAt w q.lao q.labels ∧ q.labels.length ≤ maxLen ∧ 0 ≤ q.ty ∧ q.ty ≤ 65535 ∧ 0 ≤ q.cl ∧ q.cl ≤ 65535
def QsAt (w : World) (ao : Option Addr) (qs : List QV) : Prop := ∀ i (hi : i < qs.length), ∃ b off, ao = some ⟨b, off, none⟩ ∧ b < w.heap.size ∧ QAt w b (off + i * 3) qs[i]

theorem QsAt.later {w w' : World} {ao : Option Addr} {qs : List QV} (h : QsAt w ao qs) (hb : Below w.heap.size w w') : QsAt w' ao qs := by
  intro i hi
  obtain ⟨b, off, h1, h2, a1, a2, a3, a4, a5⟩ := h i hi
  exact ⟨b, off, h1, Nat.lt_of_lt_of_le h2 hb.size, (hb.cell (p := ⟨b, _, none⟩) h2).trans a1, (hb.cell (p := ⟨b, _, none⟩) h2).trans a2, (hb.cell (p := ⟨b, _, none⟩) h2).trans a3, a4.later hb, a5⟩

theorem view_qs {fuel : Nat} {cs : List Value} {x : DataW H × List MemPlace} (h : DataW.trod enc Ybaf.prog w base spare held fuel 36 cs = some x) :
    ∃ ao qs cap, cs = [.slice ao qs.length cap] ∧ qs.length ≤ maxLen ∧ QsAt w ao qs := by
  rcases open_slice Ybaf.underlying36 h with ⟨hcs, _⟩ | ⟨a, len, cap, m, n, D, Pl, hcs, _, hl, hm, hmm, _, hel⟩
  · exact ⟨none, [], 0, hcs, by simp, fun i hi => absurd hi (Nat.not_lt_zero _)⟩
  · rw [Ybaf.cells61] at hel
    have hlm : len ≤ m := by rw [hmm]; split <;> omega
    obtain ⟨xs, hxl, hxs⟩ := elems_list (w := w) (a := a) (len := len) (sz := 3) (p := fun b o q => QAt w b o q) (fun i hi => by
      obtain ⟨cs', h1, h2⟩ := hel i (by omega)
      obtain ⟨cs0, g1, _⟩ := hel 0 (by omega)
      obtain ⟨b, off, ha, hb, hlen, hc⟩ := elem_cells (by decide) g1 h1
      obtain ⟨y0, y1, y2, n', _, hl', t0, t1, t2⟩ := trod_struct3 Ybaf.underlying61 h2
      match cs', hlen with
      | [c0, c1, c2], _ =>
        obtain ⟨lao, ss, lcap, e0, hsl, hss⟩ := view_strs Ybaf.underlying28 t0
        obtain ⟨p1, e1, _, w1⟩ := DataW.trod_int Ybaf.underlying59 t1
        obtain ⟨p2, e2, _, w2⟩ := DataW.trod_int Ybaf.underlying59 t2
        simp [Ybaf.cells28] at e0
        simp [Ybaf.cells59] at e1 e2
        subst e0; subst e1; subst e2
        exact ⟨⟨lao, lcap, ss, p1, p2⟩, b, off, ha, hb, by simpa using hc 0 (by decide), by simpa using hc 1 (by decide), by simpa using hc 2 (by decide), hss, hsl, (u16_bounds w1).1, (u16_bounds w1).2, (u16_bounds w2).1, (u16_bounds w2).2⟩)
    refine ⟨some a, xs, cap, by rw [hxl]; exact hcs, by omega, fun j hj => ?_⟩
    obtain ⟨b, off, h1, h2, h3⟩ := hxs j hj
    exact ⟨b, off, by rw [h1], h2, h3⟩

structure OV where
  code : Int
  dao : Option Addr
  dcap : Nat
  data : List Int

def OAt (w : World) (b off : Nat) (o : OV) : Prop :=
  w.cell? ⟨b, off, none⟩ = some (.int .u16 o.code) ∧ w.cell? ⟨b, off + 1, none⟩ = some (.slice o.dao o.data.length o.dcap) ∧
    IntsAt w .u8 o.dao o.data ∧ o.data.length ≤ maxLen ∧ o.data.length ≤ o.dcap ∧ (∀ z ∈ o.data, 0 ≤ z ∧ z ≤ 255) ∧ 0 ≤ o.code ∧ o.code ≤ 65535
def OsAt (w : World) (ao : Option Addr) (os : List OV) : Prop := ∀ i (hi : i < os.length), ∃ b off, ao = some ⟨b, off, none⟩ ∧ b < w.heap.size ∧ OAt w b (off + i * 2) os[i]

theorem OsAt.later {w w' : World} {ao : Option Addr} {os : List OV} (h : OsAt w ao os) (hb : Below w.heap.size w w') : OsAt w' ao os := by
  intro i hi
  obtain ⟨b, off, h1, h2, a1, a2, a3, a4⟩ := h i hi
  exact ⟨b, off, h1, Nat.lt_of_lt_of_le h2 hb.size, (hb.cell (p := ⟨b, _, none⟩) h2).trans a1, (hb.cell (p := ⟨b, _, none⟩) h2).trans a2, a3.later hb, a4⟩

theorem view_ints_cap {t e : TypeId} {k : IntKind} {fuel : Nat} {cs : List Value} {x : DataW H × List MemPlace} (ht : P.underlying t = some (.slice e)) (he : P.underlying e = some (.int k)) (hc : P.cellsOf e = 1)
    (h : DataW.trod enc P w base spare held fuel t cs = some x) :
    ∃ ao zs cap, cs = [.slice ao zs.length cap] ∧ zs.length ≤ maxLen ∧ zs.length ≤ cap ∧ IntsAt w k ao zs ∧ ∀ z ∈ zs, (Lit.int k z).wf = true := by
  obtain ⟨ao, zs, cap, h1, h2, h3, h4⟩ := view_ints ht he hc h
  refine ⟨ao, zs, cap, h1, h2, ?_, h3, h4⟩
  rcases open_ints ht he hc h with ⟨hcs, _⟩ | ⟨a, len, cap', zs', hcs, _, hl, _⟩
  · rw [hcs] at h1; simp at h1; omega
  · rw [hcs] at h1; simp at h1; omega

theorem view_os {fuel : Nat} {cs : List Value} {x : DataW H × List MemPlace} (h : DataW.trod enc Ybaf.prog w base spare held fuel 38 cs = some x) :
    ∃ ao os cap, cs = [.slice ao os.length cap] ∧ os.length ≤ maxLen ∧ OsAt w ao os := by
  rcases open_slice Ybaf.underlying38 h with ⟨hcs, _⟩ | ⟨a, len, cap, m, n, D, Pl, hcs, _, hl, hm, hmm, _, hel⟩
  · exact ⟨none, [], 0, hcs, by simp, fun i hi => absurd hi (Nat.not_lt_zero _)⟩
  · rw [Ybaf.cells67] at hel
    have hlm : len ≤ m := by rw [hmm]; split <;> omega
    obtain ⟨xs, hxl, hxs⟩ := elems_list (w := w) (a := a) (len := len) (sz := 2) (p := fun b o q => OAt w b o q) (fun i hi => by
      obtain ⟨cs', h1, h2⟩ := hel i (by omega)
      obtain ⟨cs0, g1, _⟩ := hel 0 (by omega)
      obtain ⟨b, off, ha, hb, hlen, hc⟩ := elem_cells (by decide) g1 h1
      obtain ⟨y0, y1, n', _, hl', t0, t1⟩ := trod_struct2 Ybaf.underlying67 h2
      match cs', hlen with
      | [c0, c1], _ =>
        obtain ⟨p1, e1, _, w1⟩ := DataW.trod_int Ybaf.underlying59 t0
        obtain ⟨dao, zs, dcap, e0, hzl, hzc, hat, hz⟩ := view_ints_cap Ybaf.underlying23 Ybaf.underlying5 Ybaf.cells5 t1
        simp [Ybaf.cells59] at e1
        simp [Ybaf.cells23] at e0
        subst e0; subst e1
        exact ⟨⟨p1, dao, dcap, zs⟩, b, off, ha, hb, by simpa using hc 0 (by decide), by simpa using hc 1 (by decide), hat, hzl, hzc, fun z hz' => u8_bounds (hz z hz'), (u16_bounds w1).1, (u16_bounds w1).2⟩)
    refine ⟨some a, xs, cap, by rw [hxl]; exact hcs, by omega, fun j hj => ?_⟩
    obtain ⟨b, off, h1, h2, h3⟩ := hxs j hj
    exact ⟨b, off, by rw [h1], h2, h3⟩
end
end Go.Proofs.YbulkaxhmFmt
