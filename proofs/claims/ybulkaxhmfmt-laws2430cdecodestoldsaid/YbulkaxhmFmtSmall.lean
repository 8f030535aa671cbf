/-
  The contract of zzs2430csmall.
-/
import Derived.Test.YbulkaxhmFmtBasic
import Derived.Test.YbulkaxhmFmtViewsC
set_option linter.unusedVariables false
set_option linter.unusedSimpArgs false
namespace Go.Proofs.YbulkaxhmFmt
open Go.RowKit

def Small (qs : List QV) (no nO : Nat) : Prop := qs.length ≤ 256 ∧ no ≤ 1024 ∧ nO ≤ 256 ∧ ∀ j (hj : j < qs.length), qs[j].labels.length ≤ 256

set_option maxHeartbeats 1000000 in
theorem small_any (qao : Option Addr) (qs : List QV) (qcap : Nat) (oao : Option Addr) (no ocap : Nat) (pao : Option Addr) (np pcap : Nat) (w : World) (hq : Hid (QsAt w qao qs)) (h1 : qs.length ≤ maxLen) (h2 : no ≤ maxLen) (h3 : np ≤ maxLen) :
    Calls Ybaf.prog 10 #[.slice qao qs.length qcap, .slice oao no ocap, .slice pao np pcap] w fun e w' => ∃ b, e = .returned (.bool b) ∧ Below w.heap.size w w' ∧ (b = true → Small qs no np) := by
  unfold maxLen at h1 h2 h3
  by_cases a1 : qs.length ≤ 256
  · have t1 : decide ((256 : Int) < (qs.length : Int)) = false := decide_eq_false (by omega)
    by_cases a2 : no ≤ 1024
    · have t2 : decide ((1024 : Int) < (no : Int)) = false := decide_eq_false (by omega)
      by_cases a3 : np ≤ 256
      · have t3 : decide ((256 : Int) < (np : Int)) = false := decide_eq_false (by omega)
        go_enter Ybaf.func10, Ybaf.ntmps10
        go_wp2_with fail
        go_loopw [24] (fun i wr => ∃ k : Nat, k ≤ qs.length ∧ i = .int .i64 k ∧ Hid (∀ j (hj : j < qs.length), j < k → qs[j].labels.length ≤ 256) ∧ Below w.heap.size w wr) (fun i _ => qs.length - (intOf i).toNat)
        case atStart => exact ⟨0, by omega, rfl, fun j _ hj => absurd hj (Nat.not_lt_zero _), Below.refl _ _⟩
        case round =>
          obtain ⟨k, hk, rfl, hsm, hbel⟩ := hrel
          by_cases hlt : k < qs.length
          · obtain ⟨b, off, hao, hb, c1, c2, c3, c4, c5, c6, c7, c8, c9⟩ := hq.out.later hbel k hlt
            subst hao
            unfold maxLen at c5
            obtain ⟨q, hqk⟩ : ∃ q, q = qs[k] := ⟨_, rfl⟩
            rw [← hqk] at c1 c2 c3 c5 c6 c7 c8 c9
            have HQ : Hid (q = qs[k]) := hqk
            clear hqk c4
            by_cases hl : q.labels.length ≤ 256
            · have t4 : decide ((256 : Int) < (q.labels.length : Int)) = false := decide_eq_false (by omega)
              go_wp2
              go_roundw
              case rel =>
                refine ⟨k + 1, by omega, by go_num, fun j hj hjk => ?_, hbel.alloc hbel.size _⟩
                by_cases hjk' : j < k
                · exact hsm.out j hj hjk'
                · obtain rfl : j = k := by omega
                  rw [← HQ.out]; exact hl
              case measure => simp [intOf]; omega
            · have t4 : decide ((256 : Int) < (q.labels.length : Int)) = true := decide_eq_true (by omega)
              go_wp2
              go_ret
              exact ⟨false, rfl, hbel.alloc hbel.size _, by simp⟩
          · go_wp2
            go_ret
            exact ⟨true, rfl, hbel, fun _ => ⟨a1, a2, a3, fun j hj => hsm.out j hj (by omega)⟩⟩
      · have t3 : decide ((256 : Int) < (np : Int)) = true := decide_eq_true (by omega)
        go_enter Ybaf.func10, Ybaf.ntmps10
        go_wp2
        go_ret
        exact ⟨false, rfl, Below.refl _ _, by simp⟩
    · have t2 : decide ((1024 : Int) < (no : Int)) = true := decide_eq_true (by omega)
      go_enter Ybaf.func10, Ybaf.ntmps10
      go_wp2
      go_ret
      exact ⟨false, rfl, Below.refl _ _, by simp⟩
  · have t1 : decide ((256 : Int) < (qs.length : Int)) = true := decide_eq_true (by omega)
    go_enter Ybaf.func10, Ybaf.ntmps10
    go_wp2
    go_ret
    exact ⟨false, rfl, Below.refl _ _, by simp⟩

end Go.Proofs.YbulkaxhmFmt
