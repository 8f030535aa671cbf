/-
  What zzs2430cbuild makes is a well-formed message.
-/
import Derived.Test.YbulkaxhmFmtUnp
import Derived.Test.YbulkaxhmFmtBuild
set_option linter.unusedVariables false
set_option linter.unusedSimpArgs false
namespace Go.Proofs.YbulkaxhmFmt
open Go.Extern.Stop Go.Stop Go.Extern Go.RowKit

def rsB (ots : List Int) (nopt : Nat) (ops : List OV) : List RRec := (ots.map fun z => orec z.toNat) ++ optsR (encOpts (ops.map oP)) nopt

theorem MB_msgB (fl : UInt8) (qs : List QV) (ots : List Int) (nopt : Nat) (ops : List OV) : MB fl (qs.map mqV) (rsB ots nopt ops) ots.length nopt = msgB fl qs ots nopt ops := by
  unfold MB msgB rsB
  rw [encRs_append, List.length_map]
  simp

theorem encOpts_len (ops : List OV) : (encOpts (ops.map oP)).length ≤ 204 * ops.length := by
  induction ops with
  | nil => simp [encOpts]
  | cons o t ih =>
    have := ovD_le o
    simp only [List.map_cons, encOpts, List.length_append, be16_length, List.length_cons, oP]
    omega

theorem optsR_mem {RD : List UInt8} {n : Nat} {r : RRec} (h : r ∈ optsR RD n) : r = optrec RD ∨ r = optrec [] := by
  unfold optsR at h
  split at h
  · simp at h
  · split at h
    · simp at h; exact .inl h
    · simpa using h
theorem optsR_length (RD : List UInt8) {n : Nat} (h : n ≤ 2) : (optsR RD n).length = n := by
  unfold optsR
  split
  · simp; omega
  · split
    · simp; omega
    · simp; omega

theorem wf_built {w : World} {qao pao : Option Addr} {qs : List QV} {ots : List Int} {nopt : Nat} {ops : List OV} (hq : QsAt w qao qs) (hoz : ∀ z ∈ ots, 0 ≤ z ∧ z ≤ 65535) (hp : OsAt w pao ops) (hs : Small qs ots.length ops.length) (hn : nopt ≤ 2) :
    WF (qs.map mqV) (rsB ots nopt ops) ots.length nopt (ops.map oP) := by
  have hRD : (encOpts (ops.map oP)).length < 65536 := by
    have := encOpts_len ops
    have := hs.2.2.1
    omega
  have hl : (ots.map fun z => orec z.toNat).length = ots.length := by simp
  refine ⟨by simp; exact hs.1, hs.2.1, hn, by unfold rsB; rw [List.length_append, hl, optsR_length _ hn], ?_, ?_, ?_, ?_, ?_, by simp; exact hs.2.2.1⟩
  · intro q hqm
    obtain ⟨v, hv, rfl⟩ := List.mem_map.1 hqm
    obtain ⟨i, hi, rfl⟩ := List.mem_iff_getElem.1 hv
    obtain ⟨b, off, _, _, _, _, _, _, _, h1, h2, h3, h4⟩ := hq i hi
    exact mqOf_ok _ _ _ (by omega) (by omega)
  · intro r hr
    unfold rsB at hr
    rcases List.mem_append.1 hr with h | h
    · obtain ⟨z, hz, rfl⟩ := List.mem_map.1 h
      have := hoz z hz
      refine ⟨rfl, ?_, by simp [orec]⟩
      simp only [orec]
      split <;> omega
    · rcases optsR_mem h with rfl | rfl
      · exact ⟨rfl, by simp [optrec], hRD⟩
      · exact ⟨rfl, by simp [optrec], by simp [optrec]⟩
  · intro i hi
    unfold rsB at hi ⊢
    refine ⟨fun h => ?_, fun h => ?_⟩
    · rw [List.getElem_append_left (by rw [hl]; exact h), List.getElem_map]
      simp only [orec]
      split <;> omega
    · rw [List.getElem_append_right (by rw [hl]; exact h)]
      have hk : i - (ots.map fun z => orec z.toNat).length < (optsR (encOpts (ops.map oP)) nopt).length := by rw [List.length_append] at hi; omega
      rcases optsR_mem (List.getElem_mem hk) with h' | h'
      · rw [h']; rfl
      · rw [h']; rfl
  · intro h
    unfold rsB at h ⊢
    rw [List.getElem_append_right (by rw [hl]; exact Nat.le_refl _)]
    rw [List.length_append, hl] at h
    have hn0 : nopt ≠ 0 := by
      intro h0
      rw [h0] at h
      simp [optsR] at h
    have e : ots.length - (ots.map fun z => orec z.toNat).length = 0 := by simp
    have : ∀ k (hk : k < (optsR (encOpts (ops.map oP)) nopt).length), k = 0 → (optsR (encOpts (ops.map oP)) nopt)[k].rd = encOpts (ops.map oP) := by
      rintro k hk rfl
      unfold optsR at hk ⊢
      rw [List.getElem_of_eq (if_neg hn0)]
      by_cases h1 : nopt = 1
      · rw [List.getElem_of_eq (if_pos h1)]; rfl
      · rw [List.getElem_of_eq (if_neg h1)]; rfl
    exact this _ _ e
  · intro p hpm
    obtain ⟨o, ho, rfl⟩ := List.mem_map.1 hpm
    obtain ⟨i, hi, rfl⟩ := List.mem_iff_getElem.1 ho
    obtain ⟨b, off, _, _, _, _, _, _, _, _, h1, h2⟩ := hp i hi
    have := ovD_le ops[i]
    exact ⟨by simp only [oP]; omega, by simp only [oP]; omega⟩

def nilS : Value := .slice none 0 0

/-- A zero Message. -/
theorem own_new (w : World) : Own (w.alloc (.cells #[.bool false, .slice none 0 0, .slice none 0 0, .slice none 0 0] 48)) w.heap.size (LM w.heap.size false (.slice none 0 0) (.slice none 0 0) (.slice none 0 0) 0 [] 0 [] []) := by
  have h0 := Own.nil w w.heap.size
  have hn : ∀ (e size : Nat), (⟨e, size, .slice none 0 0, 0, []⟩ : RowS).at w w.heap.size := fun e size => ⟨by simp, .inl ⟨rfl, rfl⟩⟩
  have h1 := h0.cons (r := ⟨9, 1, .slice none 0 0, 0, []⟩) (hn 9 1) (World.grownBy.refl _ _) (fun k hk => by simp [Value.ownBlock] at hk)
  have h2 := h1.cons (r := ⟨78, 2, .slice none 0 0, 0, []⟩) (hn 78 2) (World.grownBy.refl _ _) (fun k hk => by simp [Value.ownBlock] at hk)
  have h3 := h2.cons (r := ⟨73, 3, .slice none 0 0, 0, []⟩) (hn 73 3) (World.grownBy.refl _ _) (fun k hk => by simp [Value.ownBlock] at hk)
  exact h3.cons (box_new w w.heap.size 48 [.bool false, .slice none 0 0, .slice none 0 0, .slice none 0 0] (Nat.le_refl _)) (World.grownBy_alloc _ _ none) (fun k hk => by simp [box, Value.ownBlock] at hk; omega)

/-- The message's bytes, out of its row. -/
theorem row_bytes {w : World} {B : Nat} {v : Value} {M : List UInt8} (h : RowM w B 5 1 v (bvs M).length (bvs M)) (h0 : 0 < M.length) : ∃ mg cap, v = .slice (some ⟨mg, 0, none⟩) M.length cap ∧ M.length ≤ cap ∧ cap ≤ 9223372036854775807 ∧ mg < w.heap.size ∧ BytesAt w mg 0 M := by
  rcases h.2 with ⟨_, hn⟩ | ⟨g, cap, cur, fr, rfl, hb, hg, _, hnc, hcm, _, _⟩
  · rw [bvs_length] at hn; omega
  · rw [bvs_length] at hnc
    refine ⟨g, cap, by rw [bvs_length], hnc, hcm, (Array.getElem?_eq_some_iff.1 hg).1, fun j hj => ?_⟩
    rw [Nat.zero_add]
    exact RowM.cells h (g := g) rfl j _ (by simp [bvs, List.getElem?_eq_getElem hj])

theorem msgB_pos (fl : UInt8) (qs : List QV) (ots : List Int) (nopt : Nat) (ops : List OV) : 12 ≤ (msgB fl qs ots nopt ops).length := by
  unfold msgB
  simp only [List.length_append, hdr_length]
  omega

theorem ifaceNe (t : TypeId) (v : Value) (W : World) : (binOp BinOp.neq 31 (.iface t v) .nilIface).run Ybaf.prog W = .ok (.bool true) W := by kernel_rfl

end Go.Proofs.YbulkaxhmFmt
