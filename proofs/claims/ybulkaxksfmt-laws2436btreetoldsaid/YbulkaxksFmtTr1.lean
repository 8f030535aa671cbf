/-
  A level of the tree is done.
-/
import Derived.Test.YbulkaxksFmtTr0
set_option linter.unusedVariables false
set_option linter.unusedSimpArgs false
namespace Go.Proofs.YbulkaxksFmt
open Go.RowKit

theorem one_cell {w : World} {b : Nat} {v : Value} (h : w.cell? ⟨b, 0, none⟩ = some v) : ∀ j u, [v][j]? = some u → w.cell? ((⟨b, 0, none⟩ : Addr).add j) = some u := by
  intro j u hu
  have hj := (List.getElem?_eq_some_iff.1 hu).1
  have : j = 0 := by simp at hj; omega
  subst this
  simp at hu
  subst hu
  rw [add_zero_off]
  exact h

theorem level_done {B : Nat} {w wF : World} {g lo rb sb gs k fb m tb tc pb pc lac pac : Nat} {ps : List Nat} {D : Nat → Nat} {xs : Value → Value → Value → List Value} {W : Int} {lal pal : List Int} {fxs lvs pvs fvs : List Value} {fv : Value} {LS PS : List (List Int)} {laa paa : Option Addr}
    (hLl : LS.length = k + 1) (hfl : fvs.length = k + 1) (hok : TreeOk g LS PS) (hL0 : LS[0]? = some [(gs : Int)]) (hP0 : PS[0]? = some [-1]) (hLb : ∀ j (hj : j < LS.length), LS[j].length ≤ 13 ^ j) (hm : ∀ h : k < LS.length, (LS[k]'h).length = m) (e1 : lal.length = pal.length) (e2 : lal.length ≤ 13 * m)
    (e3 : ∀ x ∈ lal, 0 ≤ x ∧ x < (g : Int)) (e4 : ∀ x ∈ pal, 0 ≤ x ∧ x < (m : Int)) (hW : -(8000 + 16582956 * ((k + 1 : Nat) : Int)) ≤ W ∧ W ≤ 8000 + 16582956 * ((k + 1 : Nat) : Int))
    (gF : Goes B w [] wF (CL (.slice laa lal.length lac) (.slice paa pal.length pac) lal pal fb m fxs (TL sb xs (.slice (some ⟨tb, 0, none⟩) (k + 1 + 1) tc) (.slice (some ⟨pb, 0, none⟩) (k + 1 + 1) pc) fv (lvs ++ [.slice laa lal.length lac]) (pvs ++ [.slice paa pal.length pac]) fvs)))
    (hI1 : InnerL wF (CL (.slice laa lal.length lac) (.slice paa pal.length pac) lal pal fb m fxs (TL sb xs (.slice (some ⟨tb, 0, none⟩) (k + 1 + 1) tc) (.slice (some ⟨pb, 0, none⟩) (k + 1 + 1) pc) fv (lvs ++ [.slice laa lal.length lac]) (pvs ++ [.slice paa pal.length pac]) fvs)) lvs LS)
    (hI2 : InnerL wF (CL (.slice laa lal.length lac) (.slice paa pal.length pac) lal pal fb m fxs (TL sb xs (.slice (some ⟨tb, 0, none⟩) (k + 1 + 1) tc) (.slice (some ⟨pb, 0, none⟩) (k + 1 + 1) pc) fv (lvs ++ [.slice laa lal.length lac]) (pvs ++ [.slice paa pal.length pac]) fvs)) pvs PS)
    (hR : ReachL lo wF (CL (.slice laa lal.length lac) (.slice paa pal.length pac) lal pal fb m fxs (TL sb xs (.slice (some ⟨tb, 0, none⟩) (k + 1 + 1) tc) (.slice (some ⟨pb, 0, none⟩) (k + 1 + 1) pc) fv (lvs ++ [.slice laa lal.length lac]) (pvs ++ [.slice paa pal.length pac]) fvs)) rb ps D) :
    C3Rel B w g lo rb sb ps D gs xs (k + 1) W wF := by
  have T1 := (Goes.refl gF.own gF.size).tail
  have T2 := (Goes.refl T1.own T1.size).tail
  have T3 := (Goes.refl T2.own T2.size).tail
  have T := (T1.trans T2).trans T3
  have r1 := ((release32 gF.own).goes T2).goes T3
  have r2 := (release32 T1.own).goes T3
  have hkl : k < LS.length := by omega
  refine ⟨tb, tc, pb, pc, fv, lvs ++ [.slice laa lal.length lac], pvs ++ [.slice paa pal.length pac], fvs, LS ++ [lal], PS ++ [pal], by simp [hLl], hfl, treeOk_snoc hok hLl e1 e3 hm e4, ?_, ?_, ?_, hW, gF.trans T, (hI1.goes T).snoc r1, (hI2.goes T).snoc r2, hR.goes T⟩
  · rw [List.getElem?_append_left (by omega)]; exact hL0
  · rw [List.getElem?_append_left (by rw [← hok.1]; omega)]; exact hP0
  · intro j hj
    rcases Nat.lt_or_ge j LS.length with h' | h'
    · rw [List.getElem_append_left h']; exact hLb j h'
    · have : j = k + 1 := by simp at hj; omega
      subst this
      rw [List.getElem_append_right h']
      simp only [hLl, Nat.sub_self, List.getElem_cons_zero]
      have h1 := hLb k hkl
      rw [hm hkl] at h1
      have : 13 ^ (k + 1) = 13 ^ k * 13 := Nat.pow_succ 13 k
      rw [this]
      omega

end Go.Proofs.YbulkaxksFmt
