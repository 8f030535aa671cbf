/-
  readRR over a record whose name is the root's.
-/
import Derived.Test.YbulkaxhmFmtName
import Derived.Deep.RegionWith
import Derived.Deep.QuietTactic
import Derived.BigQuiet
import Derived.Deep.DeepCutAuto
set_option linter.unusedVariables false
set_option linter.unusedSimpArgs false
namespace Go.Proofs.YbulkaxhmFmt
open Go.RowKit

theorem results_tmp4 {fn : Func} {t u v x : Tmp} (h : fn.results = #[.tmp t, .tmp u, .tmp v, .tmp x]) (tmps : Array Value) (P : Program) (w : World) :
    (results fn tmps).run P w = .ok (.tuple #[tmps.getD t undef, tmps.getD u undef, tmps.getD v undef, tmps.getD x undef]) w := by
  simp [results, h]

theorem cell_new82 (w : World) (s : ByteArray) : (w.alloc (.cells #[.string s] 82)).cell? ⟨w.heap.size, 0, none⟩ = some (.string s) := by simp
theorem grown_u16 (w : World) (nq : Nat) : w.grownBy ((w.drew.alloc (.cells #[] 63)).drewN nq) none := ⟨rfl, rfl, rfl, by show w.heap.size ≤ (w.drew.alloc (.cells #[] 63)).heap.size; simp, fun k hk _ => Below.heap_alloc w _ k hk⟩

theorem grown_trans2 {a b c : World} (h1 : a.grownBy b none) (h2 : b.grownBy c none) : a.grownBy c none :=
  ⟨h2.os.trans h1.os, h2.tape.trans h1.tape, h2.output.trans h1.output, Nat.le_trans h1.size h2.size, fun k hk hne => (h2.block k (Nat.lt_of_lt_of_le hk h1.size) hne).trans (h1.block k hk hne)⟩

theorem rr_ret {ty : Int} {mg o a b c d : Nat} {x y : Int} (h1 : a = b) (h2 : c = d) (h3 : x = y) :
    Ending.returned (.tuple #[.int .u16 ty, .slice (some ⟨mg, o, none⟩) a c, .int .i64 x, .nilIface]) = .returned (.tuple #[.int .u16 ty, .slice (some ⟨mg, o, none⟩) b d, .int .i64 y, .nilIface]) := by
  rw [h1, h2, h3]

def RRPost (mg n cap p : Nat) (ty : Int) (L : Nat) (w : World) (e : Ending) (w' : World) : Prop :=
  w.grownBy w' none ∧
  ((p + 11 + L ≤ n ∧ ∃ o, (0 < L → o = p + 11) ∧ e = .returned (.tuple #[.int .u16 ty, .slice (some ⟨mg, o, none⟩) L (cap - (p + 11)), .int .i64 ((p + 11 + L : Nat) : Int), .nilIface])) ∨
  (n < p + 11 + L ∧ ∃ b s, w'.cell? ⟨b, 0, none⟩ = some (.string s) ∧ e = .returned (.tuple #[.int .u16 0, .slice none 0 0, .int .i64 0, .iface 80 (.pointer (some ⟨b, 0, none⟩))])))

set_option maxHeartbeats 400000 in
theorem rr_any (mg n cap p : Nat) (x1 x2 y1 y2 : Int) (L : Nat) (w : World) (hn : n ≤ 1000000000) (hp : p ≤ 900000000) (hcap : n ≤ cap) (hcm : cap ≤ maxLen) (hc : Hid (p < n → w.cell? ⟨mg, p, none⟩ = some (.int .u8 0)))
    (hx1 : Hid (p + 11 ≤ n → w.cell? ⟨mg, p + 1, none⟩ = some (.int .u8 x1))) (hx2 : Hid (p + 11 ≤ n → w.cell? ⟨mg, p + 2, none⟩ = some (.int .u8 x2)))
    (hy1 : Hid (p + 11 ≤ n → w.cell? ⟨mg, p + 9, none⟩ = some (.int .u8 y1))) (hy2 : Hid (p + 11 ≤ n → w.cell? ⟨mg, p + 10, none⟩ = some (.int .u8 y2)))
    (a0 : 0 ≤ x1) (a1 : x1 ≤ 255) (b0 : 0 ≤ x2) (b1 : x2 ≤ 255) (c0 : 0 ≤ y1) (c1 : y1 ≤ 255) (d0 : 0 ≤ y2) (d1 : y2 ≤ 255) (hL : 256 * y1 + y2 = L) :
    Calls Ybaf.prog 22 #[.slice (some ⟨mg, 0, none⟩) n cap, .int .i64 (p : Int)] w (RRPost mg n cap p (256 * x1 + x2) L w) := by
  unfold maxLen at hcm
  have HWL : Hid (IntKind.i64.wrap (L : Int) = L) := by show _ = _; rw [IntKind.wrap_i64]; omega
  by_cases h1 : p < n
  · have hc' := hc.out h1
    by_cases h2 : p + 11 ≤ n
    · have X1 := hx1.out h2
      have X2 := hx2.out h2
      have Y1 := hy1.out h2
      have Y2 := hy2.out h2
      have t1 : decide ((n : Int) < (p : Int) + 1 + 10) = false := decide_eq_false (by omega)
      go_enter Ybaf.func22, Ybaf.ntmps22
      go_wp2_with (go_at_call 21; refine (root_yes mg n cap p w hn (by omega) h1 hc').mono ?_; rintro e w1 ⟨rfl, rfl⟩)
      have hne : ¬ cap = p + 1 := by omega
      obtain ⟨q, hq⟩ : ∃ q, q = p + 1 := ⟨_, rfl⟩
      go_cut [1, 9] (fun s1 s9 wx => s1 = .int .i64 (q : Int) ∧ s9 = .int .u16 (256 * x1 + x2) ∧ w.grownBy wx none)
      case first =>
        go_region_with (go_at_call 19; refine (uint16_any mg (p + 1) (n - (p + 1)) (cap - (p + 1)) x1 x2 w.drew (by omega) X1 X2 a0 a1 b0 b1 (by unfold maxLen; omega)).mono ?_; rintro e w2 ⟨rfl, nq, hw2⟩)
        all_goals (have gw := grown_u16 w nq; rw [hw2] at gw; clear hw2; go_wp2_with fail; go_meet; exact ⟨by rw [hq]; rfl, rfl, gw⟩)
      case rest =>
        obtain ⟨rfl, rfl, gw⟩ := hcut
        have Y1' := gw.cell Y1 (by simp)
        have Y2' := gw.cell Y2 (by simp)
        have hne2 : ¬ cap = q + 8 := by omega
        have hb9 : (q : Int) + 8 ≤ (n : Int) := by omega
        have hwq : IntKind.i64.wrap ((q : Int) + 8) = (q : Int) + 8 := by rw [IntKind.wrap_i64]; omega
        have hb9n : q + 8 ≤ n := by omega
        have hb9c : q + 8 ≤ cap := by omega
        have hb9d : (q : Int) + 8 ≤ (cap : Int) := by omega
        have hnc : (n : Int) ≤ (cap : Int) := by omega
        rw [show p + 9 = q + 8 by omega] at Y1'
        rw [show p + 10 = q + 8 + 1 by omega] at Y2'
        have HQ : Hid (q = p + 1) := hq
        have hn2 : 2 ≤ n - (q + 8) := by omega
        clear hq hne
        obtain ⟨w1, rfl⟩ : ∃ x : World, x = wc := ⟨_, rfl⟩
        go_wp2_with fail
        go_cut [10] (fun s10 wx => s10 = .int .i64 (L : Int) ∧ w1.grownBy wx none)
        case first =>
          go_region_with (go_at_call 19; refine (uint16_any mg (q + 8) (n - (q + 8)) (cap - (q + 8)) y1 y2 w1.drew hn2 Y1' Y2' c0 c1 d0 d1 (by unfold maxLen; omega)).mono ?_; rintro e w2 ⟨rfl, nq, hw2⟩)
          all_goals (have gw2 := grown_u16 w1 nq; rw [hw2] at gw2; clear hw2; go_wp2_with fail; go_meet; exact ⟨by rw [HWL.out], gw2⟩)
        case rest =>
          obtain ⟨rfl, gw2⟩ := hcut
          obtain ⟨w2, rfl⟩ : ∃ x : World, x = wc := ⟨_, rfl⟩
          have gT := grown_trans2 gw gw2
          have hq := HQ.out
          by_cases h3 : p + 11 + L ≤ n
          · have t2 : decide ((n : Int) < (q : Int) + 10 + (L : Int)) = false := decide_eq_false (by omega)
            have e15 : (q : Int) + 10 + (L : Int) ≤ (cap : Int) := by omega
            by_cases h4 : cap = q + 10
            · have HC : Hid (cap = q + 10) := h4
              clear hq
              go_wp2_with fail
              go_region
              go_wp2_with fail
              refine bodyPost_ret (results_tmp4 rfl _ _ _) rfl ?_
              have hq := HQ.out
              have hcc := HC.out
              have hL0 : L = 0 := by omega
              exact ⟨grown_trans2 gT ⟨rfl, rfl, rfl, Nat.le_refl _, fun _ _ _ => rfl⟩, .inl ⟨h3, 0, fun h => by omega, rr_ret (by omega) (by omega) (by omega)⟩⟩
            · clear hq
              go_wp2_with fail
              go_region
              go_wp2_with fail
              refine bodyPost_ret (results_tmp4 rfl _ _ _) rfl ?_
              have hq := HQ.out
              exact ⟨grown_trans2 gT ⟨rfl, rfl, rfl, Nat.le_refl _, fun _ _ _ => rfl⟩, .inl ⟨h3, q + 10, fun h => by omega, rr_ret (by omega) (by omega) (by omega)⟩⟩
          · have t2 : decide ((n : Int) < (q : Int) + 10 + (L : Int)) = true := decide_eq_true (by omega)
            clear hq
            go_wp2_with (go_at_call 14; refine (errorsNew_any _ _).mono ?_; rintro e w1 ⟨rfl, rfl⟩)
            (try simp only [Exit.inBlock, Exit.then])
            refine bodyPost_ret (results_tmp4 rfl _ _ _) rfl ?_
            exact ⟨grown_trans2 gT (World.grownBy_alloc w2 _ none), .inr ⟨by omega, w2.heap.size, _, cell_new82 w2 _, rfl⟩⟩
    · have t1 : decide ((n : Int) < (p : Int) + 1 + 10) = true := decide_eq_true (by omega)
      go_enter Ybaf.func22, Ybaf.ntmps22
      go_wp2_with (first | (go_at_call 21; refine (root_yes mg n cap p w hn (by omega) h1 hc').mono ?_; rintro e w1 ⟨rfl, rfl⟩) | (go_at_call 14; refine (errorsNew_any _ _).mono ?_; rintro e w1 ⟨rfl, rfl⟩))
      (try simp only [Exit.inBlock, Exit.then])
      refine bodyPost_ret (results_tmp4 rfl _ _ _) rfl ?_
      exact ⟨World.grownBy_alloc w _ none, .inr ⟨by omega, w.heap.size, _, cell_new82 w _, rfl⟩⟩
  · go_enter Ybaf.func22, Ybaf.ntmps22
    go_wp2_with (go_at_call 21; refine (root_no mg n cap p w hn (by omega) (by omega)).mono ?_; rintro e w1 ⟨s, rfl, rfl⟩)
    (try simp only [Exit.inBlock, Exit.then])
    refine bodyPost_ret (results_tmp4 rfl _ _ _) rfl ?_
    exact ⟨World.grownBy_alloc w _ none, .inr ⟨by omega, w.heap.size, _, cell_new82 w _, rfl⟩⟩

end Go.Proofs.YbulkaxhmFmt
