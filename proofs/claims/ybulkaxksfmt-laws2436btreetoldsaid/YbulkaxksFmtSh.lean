/-
  The tree of a shape: onName, childGroups.
-/
import Derived.Test.YbulkaxksFmtRc
set_option linter.unusedVariables false
set_option linter.unusedSimpArgs false
namespace Go.Proofs.YbulkaxksFmt
open Go.RowKit

def I32At (w : World) (a : Option Addr) (l : List Int) : Prop := ∀ j (hj : j < l.length), ∃ b, a = some ⟨b, 0, none⟩ ∧ w.cell? ⟨b, j, none⟩ = some (.int .i32 l[j])
def InnerAt (w : World) (vs : List Value) (LS : List (List Int)) : Prop := vs.length = LS.length ∧ ∀ j (hj : j < LS.length), ∃ ao cap, vs[j]? = some (.slice ao LS[j].length cap) ∧ I32At w ao LS[j]
/-- The two rows of a shape's tree. -/
def TreeAt (w : World) (sb : Nat) (LS PS : List (List Int)) : Prop :=
  ∃ (tb tc pb pc : Nat) (vs us : List Value), w.cell? ⟨sb, 12, none⟩ = some (.slice (some ⟨tb, 0, none⟩) LS.length tc) ∧ w.cell? ⟨sb, 13, none⟩ = some (.slice (some ⟨pb, 0, none⟩) PS.length pc) ∧
    (∀ j v, vs[j]? = some v → w.cell? ⟨tb, j, none⟩ = some v) ∧ (∀ j v, us[j]? = some v → w.cell? ⟨pb, j, none⟩ = some v) ∧ InnerAt w vs LS ∧ InnerAt w us PS
/-- What is true of the tree. -/
def TreeOk (g : Nat) (LS PS : List (List Int)) : Prop :=
  LS.length = PS.length ∧ (∀ l (h : l < LS.length) (h' : l < PS.length), LS[l].length = PS[l].length) ∧ (∀ l ∈ LS, ∀ x ∈ l, 0 ≤ x ∧ x < (g : Int)) ∧
  ∀ l (h : l + 1 < PS.length) (h' : l < LS.length), ∀ p ∈ PS[l + 1], 0 ≤ p ∧ p < (LS[l].length : Int)

theorem TreeAt.below {w w' : World} {sb : Nat} {LS PS : List (List Int)} (h : TreeAt w sb LS PS) (hb : Below w.heap.size w w') : TreeAt w' sb LS PS := by
  have inn : ∀ {vs : List Value} {ls : List (List Int)}, InnerAt w vs ls → InnerAt w' vs ls := fun hi => ⟨hi.1, fun j hj => by
    obtain ⟨ao, cap, h1, h2⟩ := hi.2 j hj
    exact ⟨ao, cap, h1, fun i hi => by obtain ⟨b, e, c⟩ := h2 i hi; exact ⟨b, e, Below.cellK hb c⟩⟩⟩
  obtain ⟨tb, tc, pb, pc, vs, us, h1, h2, h3, h4, h5, h6⟩ := h
  exact ⟨tb, tc, pb, pc, vs, us, Below.cellK hb h1, Below.cellK hb h2, fun j v hv => Below.cellK hb (h3 j v hv), fun j v hv => Below.cellK hb (h4 j v hv), inn h5, inn h6⟩

set_option maxRecDepth 100000 in
theorem onName_any (sb l c h g : Nat) (LS PS : List (List Int)) (w : World) (hT : TreeAt w sb LS PS) (hok : TreeOk g LS PS) (hl : l < LS.length) (hc : c < LS[l].length) (hn : LS.length ≤ 10) (hg : g ≤ 10) (hcs : Hid (∀ l ∈ LS, l.length ≤ 10000)) :
    Calls Ybaf.prog 25 #[.pointer (some ⟨sb, 0, none⟩), .int .i64 (l : Int), .int .i64 (c : Int), .int .i64 (h : Int)] w fun e w' => ∃ b, e = .returned (.bool b) ∧ w = w' := by
  obtain ⟨tb, tc, pb, pc, vs, us, h12, h13, hvs, hus, hi1, hi2⟩ := hT
  have HVS : Hid (∀ j v, vs[j]? = some v → w.cell? ⟨tb, j, none⟩ = some v) := hvs
  have HUS : Hid (∀ j v, us[j]? = some v → w.cell? ⟨pb, j, none⟩ = some v) := hus
  have HI1 : Hid (InnerAt w vs LS) := hi1
  have HI2 : Hid (InnerAt w us PS) := hi2
  have HOK : Hid (TreeOk g LS PS) := hok
  obtain ⟨n, hnn⟩ : ∃ n, n = LS.length := ⟨_, rfl⟩
  have HN : Hid (n = LS.length) := hnn
  have hp : PS.length = n := by rw [hnn, hok.1]
  rw [← hnn] at h12 hn
  rw [hp] at h13
  have HP : Hid (PS.length = n) := hp
  have HJ0 : Hid (∃ hi : l < LS.length, c < (LS[l]'hi).length) := ⟨hl, hc⟩
  clear hvs hus hi1 hi2 hok hnn hp hc
  have hln : l < n := by rw [HN.out]; exact hl
  clear hl
  go_enter Ybaf.func25, Ybaf.ntmps25
  go_wp2_with fail
  go_loopw [1, 2] (fun a b wr => ∃ (i j : Nat), a = .int .i64 (i : Int) ∧ b = .int .i64 (j : Int) ∧ i ≤ l ∧ Hid (∃ hi : i < LS.length, j < (LS[i]'hi).length) ∧ w = wr) (fun a _ _ => (intOf a).toNat)
  case atStart => exact ⟨l, c, rfl, rfl, Nat.le_refl _, HJ0, rfl⟩
  case round =>
    obtain ⟨i, j, rfl, rfl, hil, HJ, rfl⟩ := hrel
    by_cases hi0 : 0 < i
    · have hi0' : (0 : Int) < (i : Int) := by omega
      have hin : (i : Int) < (n : Int) := by omega
      obtain ⟨hiL, hjL⟩ := HJ.out
      have hiL1 : i - 1 < LS.length := Nat.lt_of_le_of_lt (Nat.sub_le _ _) hiL
      have hiP : i < PS.length := by have := HP.out; omega
      obtain ⟨ao, acap, hva, hia⟩ := HI1.out.2 i hiL
      obtain ⟨po, pcap, hua, hip⟩ := HI2.out.2 i hiP
      have c1 := HVS.out i _ hva
      have c2 := HUS.out i _ hua
      have heq : LS[i].length = PS[i].length := HOK.out.2.1 i hiL hiP
      obtain ⟨ab, rfl, d1⟩ := hia j hjL
      obtain ⟨qb, rfl, d2⟩ := hip j (by omega)
      obtain ⟨m, hm⟩ : ∃ m, m = LS[i].length := ⟨_, rfl⟩
      rw [← heq, ← hm] at c2
      rw [← hm] at c1
      have hjm : (j : Int) < (m : Int) := by omega
      have hm4 : m ≤ 10000 := by rw [hm]; exact hcs.out _ (List.getElem_mem _)
      obtain ⟨x, hx⟩ : ∃ x, x = LS[i][j] := ⟨_, rfl⟩
      obtain ⟨p, hp⟩ : ∃ p, p = PS[i][j]'(by omega) := ⟨_, rfl⟩
      have hxr := HOK.out.2.2.1 _ (List.getElem_mem hiL) x (by rw [hx]; exact List.getElem_mem _)
      have hpr : 0 ≤ p ∧ p < ((LS[i - 1]'hiL1).length : Int) := by
        have := HOK.out.2.2.2 (i - 1) (by omega) (by omega) p (by
          have e : PS[i - 1 + 1]'(by omega) = PS[i] := by congr 1; omega
          rw [e, hp]; exact List.getElem_mem _)
        exact this
      have hl1 : (LS[i - 1]'hiL1).length ≤ 10000 := hcs.out _ (List.getElem_mem hiL1)
      rw [← hx] at d1
      rw [← hp] at d2
      clear hx hp hm heq hva hua hia hip
      obtain ⟨pn, hpn⟩ : ∃ q : Nat, p = (q : Int) := ⟨p.toNat, by omega⟩
      subst hpn
      have HPR : Hid (pn < (LS[i - 1]'hiL1).length) := by show pn < _; omega
      have hpn4 : pn < 10000 := by omega
      clear hpr hl1
      have hw1 : IntKind.i64.wrap x = x := by rw [IntKind.wrap_i64]; omega
      have hw2 : IntKind.i64.wrap (pn : Int) = (pn : Int) := by rw [IntKind.wrap_i64]; omega
      by_cases hxh : x = (h : Int)
      · subst hxh
        go_wp2
        go_ret
        exact ⟨true, rfl, rfl⟩
      · have hxb : (x == (h : Int)) = false := by rw [beq_eq_false_iff_ne]; exact hxh
        go_wp2
        go_roundw
        case rel =>
          refine ⟨i - 1, pn, by go_num, rfl, by omega, ⟨by omega, HPR.out⟩, by trivial⟩
        case measure => simp [intOf]; omega
    · have hi0' : decide ((0 : Int) < (i : Int)) = false := decide_eq_false (by omega)
      go_wp2
      go_ret
      exact ⟨false, rfl, rfl⟩

end Go.Proofs.YbulkaxksFmt
