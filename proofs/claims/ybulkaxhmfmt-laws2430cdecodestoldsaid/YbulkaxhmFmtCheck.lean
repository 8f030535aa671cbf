/-
  zzs2430ccheck over a message that agrees with what was wanted; bytes.Equal.
-/
import Derived.Test.YbulkaxhmFmtUnp0
import Derived.BigQuiet
import Derived.Deep.DeepCutAuto
set_option linter.unusedVariables false
set_option linter.unusedSimpArgs false
namespace Go.Proofs.YbulkaxhmFmt
open Go.Extern.Stop Go.Stop Go.Extern Go.RowKit

/-- Bytes behind an address that may be nil. -/
def BytesIn (w : World) (a : Option Addr) (l : List UInt8) : Prop := (a = none ∧ l = []) ∨ ∃ ad, a = some ad ∧ ∀ j (hj : j < l.length), w.cell? (ad.add j) = some (.int .u8 (l[j].toNat : Int))

theorem conv_any {w : World} {a : Option Addr} {l : List UInt8} (c : Nat) (h : BytesIn w a l) : (convert 23 9 (.slice a l.length c)).run Ybaf.prog w = .ok (.string ⟨l.toArray⟩) w := by
  rcases h with ⟨rfl, rfl⟩ | ⟨ad, rfl, h⟩
  · show (convert 23 9 (.slice none 0 c)).run Ybaf.prog w = .ok (.string ⟨#[]⟩) w
    kernel_rfl
  · exact run_convert_bytes_back w 23 9 5 ad c l Ybaf.underlying23 Ybaf.underlying5 Ybaf.underlying9 h

theorem equal_any (a1 a2 : Option Addr) (l : List UInt8) (c1 c2 D : Nat) (w : World) (hD : D = l.length) (h1 : BytesIn w a1 l) (h2 : BytesIn w a2 l) :
    Calls Ybaf.prog 24 #[.slice a1 D c1, .slice a2 D c2] w fun e w' => e = .returned (.bool true) ∧ w = w' := by
  subst hD
  have e1 := conv_any c1 h1
  have e2 := conv_any c2 h2
  go_enter Ybaf.func24, Ybaf.ntmps24
  go_wp2
  go_ret
  exact ⟨by simp, rfl⟩

/-- One question agrees. -/
def QAgree (w : World) (qa na ta ca : Option Addr) (j : Nat) : Prop :=
  ∃ (qg ng tg cg : Nat) (ty cl : Int) (a1 a2 : Option Addr) (L c1 c2 : Nat), qa = some ⟨qg, 0, none⟩ ∧ na = some ⟨ng, 0, none⟩ ∧ ta = some ⟨tg, 0, none⟩ ∧ ca = some ⟨cg, 0, none⟩ ∧ L ≤ 1000 ∧
    w.cell? ⟨qg, j * 3, none⟩ = some (.slice a1 L c1) ∧ w.cell? ⟨qg, j * 3 + 1, none⟩ = some (.int .u16 ty) ∧ w.cell? ⟨qg, j * 3 + 2, none⟩ = some (.int .u16 cl) ∧
    w.cell? ⟨ng, j, none⟩ = some (.slice a2 L c2) ∧ w.cell? ⟨tg, j, none⟩ = some (.int .u16 ty) ∧ w.cell? ⟨cg, j, none⟩ = some (.int .u16 cl) ∧
    ∀ k, k < L → ∃ g1 o1 g2 o2 s, a1 = some ⟨g1, o1, none⟩ ∧ a2 = some ⟨g2, o2, none⟩ ∧ w.cell? ⟨g1, o1 + k, none⟩ = some (.string s) ∧ w.cell? ⟨g2, o2 + k, none⟩ = some (.string s)

/-- One option agrees. -/
def OAgree (w : World) (oa ka da : Option Addr) (j : Nat) : Prop :=
  ∃ (og kg dg : Nat) (code : Int) (a1 a2 : Option Addr) (D c1 c2 : Nat) (l : List UInt8), oa = some ⟨og, 0, none⟩ ∧ ka = some ⟨kg, 0, none⟩ ∧ da = some ⟨dg, 0, none⟩ ∧ D = l.length ∧ D ≤ 1000 ∧
    w.cell? ⟨og, j * 2, none⟩ = some (.int .u16 code) ∧ w.cell? ⟨og, j * 2 + 1, none⟩ = some (.slice a1 D c1) ∧ w.cell? ⟨kg, j, none⟩ = some (.int .u16 code) ∧ w.cell? ⟨dg, j, none⟩ = some (.slice a2 D c2) ∧
    BytesIn w a1 l ∧ BytesIn w a2 l

theorem Below.cellK {w w' : World} (h : Below w.heap.size w w') {a : Addr} {v : Value} (hc : w.cell? a = some v) : w'.cell? a = some v := (h.cell (World.block_lt_of_cell? w a hc)).trans hc

theorem BytesIn.below {w w' : World} {a : Option Addr} {l : List UInt8} (h : BytesIn w a l) (hb : Below w.heap.size w w') : BytesIn w' a l := by
  rcases h with h | ⟨ad, rfl, h⟩
  · exact .inl h
  · exact .inr ⟨ad, rfl, fun j hj => Below.cellK hb (h j hj)⟩

theorem QAgree.below {w w' : World} {qa na ta ca : Option Addr} {j : Nat} (h : QAgree w qa na ta ca j) (hb : Below w.heap.size w w') : QAgree w' qa na ta ca j := by
  obtain ⟨qg, ng, tg, cg, ty, cl, a1, a2, L, c1, c2, h1, h2, h3, h4, h5, h6, h7, h8, h9, h10, h11, h12⟩ := h
  refine ⟨qg, ng, tg, cg, ty, cl, a1, a2, L, c1, c2, h1, h2, h3, h4, h5, Below.cellK hb h6, Below.cellK hb h7, Below.cellK hb h8, Below.cellK hb h9, Below.cellK hb h10, Below.cellK hb h11, fun k hk => ?_⟩
  obtain ⟨g1, o1, g2, o2, s, x1, x2, x3, x4⟩ := h12 k hk
  exact ⟨g1, o1, g2, o2, s, x1, x2, Below.cellK hb x3, Below.cellK hb x4⟩
theorem OAgree.below {w w' : World} {oa ka da : Option Addr} {j : Nat} (h : OAgree w oa ka da j) (hb : Below w.heap.size w w') : OAgree w' oa ka da j := by
  obtain ⟨og, kg, dg, code, a1, a2, D, c1, c2, l, h1, h2, h3, h4, h5, h6, h7, h8, h9, h10, h11⟩ := h
  exact ⟨og, kg, dg, code, a1, a2, D, c1, c2, l, h1, h2, h3, h4, h5, Below.cellK hb h6, Below.cellK hb h7, Below.cellK hb h8, Below.cellK hb h9, h10.below hb, h11.below hb⟩

set_option maxRecDepth 100000 in
set_option maxHeartbeats 1000000 in
theorem check_any (mb : Nat) (fl : UInt8) (qa oa na ta ca ka da : Option Addr) (nQ np qc oc nc tc cc kc dc : Nat) (w : World)
    (hm0 : w.cell? ⟨mb, 0, none⟩ = some (.bool (bits BinOp.and IntKind.u8 (fl.toNat : Int) 128 != 0))) (hm1 : w.cell? ⟨mb, 1, none⟩ = some (.slice qa nQ qc)) (hm2 : w.cell? ⟨mb, 2, none⟩ = some (.slice oa np oc)) (hnq : nQ ≤ 1000) (hnp : np ≤ 1000)
    (hQ : Hid (∀ j, j < nQ → QAgree w qa na ta ca j)) (hO : Hid (∀ j, j < np → OAgree w oa ka da j)) :
    Calls Ybaf.prog 13 #[.pointer (some ⟨mb, 0, none⟩), .int .u8 (fl.toNat : Int), .agg #[.slice na nQ nc, .slice ta nQ tc, .slice ca nQ cc, .slice ka np kc, .slice da np dc]] w fun e w' => e = .returned (.bool true) ∧ Below w.heap.size w w' := by
  obtain ⟨w1, hw1⟩ : ∃ W, W = w.alloc (.cells #[.slice na nQ nc, .slice ta nQ tc, .slice ca nQ cc, .slice ka np kc, .slice da np dc] 42) := ⟨_, rfl⟩
  obtain ⟨xb, hxb⟩ : ∃ x, x = w.heap.size := ⟨_, rfl⟩
  have b1 : Below w.heap.size w w1 := by rw [hw1]; exact (Below.refl _ _).alloc (Nat.le_refl _) _
  have m0 := Below.cellK b1 hm0
  have m1 := Below.cellK b1 hm1
  have m2 := Below.cellK b1 hm2
  have x0 : w1.cell? ⟨xb, 0, none⟩ = some (.slice na nQ nc) := by rw [hw1, hxb]; simp
  have x1 : w1.cell? ⟨xb, 1, none⟩ = some (.slice ta nQ tc) := by rw [hw1, hxb]; simp
  have x2 : w1.cell? ⟨xb, 2, none⟩ = some (.slice ca nQ cc) := by rw [hw1, hxb]; simp
  have x3 : w1.cell? ⟨xb, 3, none⟩ = some (.slice ka np kc) := by rw [hw1, hxb]; simp
  have x4 : w1.cell? ⟨xb, 4, none⟩ = some (.slice da np dc) := by rw [hw1, hxb]; simp
  have hB1 : Hid (Below w.heap.size w w1) := b1
  have hxl : w.heap.size ≤ xb := by omega
  go_enter Ybaf.func13, Ybaf.ntmps13
  go_upto_region 1 with fail
  rw [← hw1, ← hxb]
  clear hw1 hxb b1 hm0 hm1 hm2
  go_wp2_with fail
  go_quiet (fail)
  have hB2 : Hid (Below w.heap.size w (w1.drewN nq)) := below_drewN hB1.out nq
  obtain ⟨w2, hw2⟩ : ∃ W, W = w1.drewN nq := ⟨_, rfl⟩
  have m1' : w2.cell? ⟨mb, 1, none⟩ = some (.slice qa nQ qc) := by rw [hw2]; exact m1
  have m2' : w2.cell? ⟨mb, 2, none⟩ = some (.slice oa np oc) := by rw [hw2]; exact m2
  have x0' : w2.cell? ⟨xb, 0, none⟩ = some (.slice na nQ nc) := by rw [hw2]; exact x0
  have x1' : w2.cell? ⟨xb, 1, none⟩ = some (.slice ta nQ tc) := by rw [hw2]; exact x1
  have x2' : w2.cell? ⟨xb, 2, none⟩ = some (.slice ca nQ cc) := by rw [hw2]; exact x2
  have x3' : w2.cell? ⟨xb, 3, none⟩ = some (.slice ka np kc) := by rw [hw2]; exact x3
  have x4' : w2.cell? ⟨xb, 4, none⟩ = some (.slice da np dc) := by rw [hw2]; exact x4
  rw [← hw2] at hB2 ⊢
  clear hw2 hB1 m0 m1 m2 x0 x1 x2 x3 x4
  clear nq w1
  have hxw : w.heap.size ≤ xb := hxl
  go_wp2_with fail
  go_loopw [35] (fun i wr => ∃ k : Nat, k ≤ nQ ∧ i = .int .i64 (k : Int) ∧ Hid (Below w2.heap.size w2 wr)) (fun i _ => nQ - (intOf i).toNat)
  case atStart => exact ⟨0, Nat.zero_le _, rfl, Below.refl _ _⟩
  case round =>
    obtain ⟨k, hkl, rfl, hbr⟩ := hrel
    have hbw : Hid (Below w.heap.size w wr) := hB2.out.trans (hbr.out.mono hB2.out.size)
    by_cases hk : k < nQ
    · obtain ⟨qg, ng, tg, cg, ty, cl, a1, a2, L, c1, c2, rfl, rfl, rfl, rfl, hL, q0, q1, q2, n0, t0, k0, hs⟩ := hQ.out k hk
      have q0r := Below.cellK hbw.out q0
      have q1r := Below.cellK hbw.out q1
      have q2r := Below.cellK hbw.out q2
      have HS : Hid (∀ k, k < L → ∃ g1 o1 g2 o2 s, a1 = some ⟨g1, o1, none⟩ ∧ a2 = some ⟨g2, o2, none⟩ ∧ w.cell? ⟨g1, o1 + k, none⟩ = some (.string s) ∧ w.cell? ⟨g2, o2 + k, none⟩ = some (.string s)) := hs
      clear hs
      have hki : (k : Int) < (nQ : Int) := by omega
      go_upto_region 8 with fail
      obtain ⟨wz, hwz⟩ : ∃ W, W = wr.alloc (Obj.cells #[Value.slice a1 L c1, Value.int IntKind.u16 ty, Value.int IntKind.u16 cl] 73) := ⟨_, rfl⟩
      obtain ⟨vb, hvb⟩ : ∃ v, v = wr.heap.size := ⟨_, rfl⟩
      have bz : Below w2.heap.size w2 wz := by rw [hwz]; exact hbr.out.alloc hbr.out.size _
      have hbz : Below w.heap.size w wz := hB2.out.trans (bz.mono hB2.out.size)
      have y0 : wz.cell? ⟨vb, 0, none⟩ = some (.slice a1 L c1) := by rw [hwz, hvb]; simp
      have y1 : wz.cell? ⟨vb, 1, none⟩ = some (.int .u16 ty) := by rw [hwz, hvb]; simp
      have y2 : wz.cell? ⟨vb, 2, none⟩ = some (.int .u16 cl) := by rw [hwz, hvb]; simp
      have e0 := Below.cellK bz x0'
      have e1 := Below.cellK bz x1'
      have e2 := Below.cellK bz x2'
      have n0z := Below.cellK hbz n0
      have t0z := Below.cellK hbz t0
      have k0z := Below.cellK hbz k0
      have HBZ : Hid (Below w2.heap.size w2 wz) := bz
      rw [← hwz, ← hvb]
      clear hwz hvb bz hbz q0r q1r q2r n0 t0 k0
      go_wp2_with fail
      go_quiet (fail)
      obtain ⟨n1, hn1⟩ : ∃ n1, n1 = nq := ⟨_, rfl⟩
      rw [← hn1]
      clear hn1 nq
      go_wp2_with fail
      go_quiet (fail)
      have HBY : Hid (Below w2.heap.size w2 ((wz.drewN n1).drewN nq)) := below_drewN (below_drewN HBZ.out n1) nq
      obtain ⟨wy, hwy⟩ : ∃ W, W = (wz.drewN n1).drewN nq := ⟨_, rfl⟩
      have y0' : wy.cell? ⟨vb, 0, none⟩ = some (.slice a1 L c1) := by rw [hwy]; exact y0
      have e0' : wy.cell? ⟨xb, 0, none⟩ = some (.slice (some ⟨ng, 0, none⟩) nQ nc) := by rw [hwy]; exact e0
      have n0' : wy.cell? ⟨ng, k, none⟩ = some (.slice a2 L c2) := by rw [hwy]; exact n0z
      rw [← hwy] at HBY ⊢
      clear hwy y0 y1 y2 e0 e1 e2 n0z t0z k0z HBZ
      clear nq n1
      go_wp2_with fail
      go_loopw [71] (fun i wi => ∃ m : Nat, m ≤ L ∧ i = .int .i64 (m : Int) ∧ wy = wi) (fun i _ => L - (intOf i).toNat)
      case atStart => exact ⟨0, Nat.zero_le _, rfl, rfl⟩
      case round =>
        obtain ⟨m, hml, rfl, rfl⟩ := hrel
        by_cases hm : m < L
        · obtain ⟨g1, o1, g2, o2, s, rfl, rfl, s1, s2⟩ := HS.out m hm
          have hby : Below w.heap.size w wy := hB2.out.trans (HBY.out.mono hB2.out.size)
          have s1' := Below.cellK hby s1
          have s2' := Below.cellK hby s2
          have hmi : (m : Int) < (L : Int) := by omega
          clear s1 s2 hby
          go_wp2
          go_roundw
          case rel => exact ⟨m + 1, by omega, by go_num, by trivial⟩
          case measure => simp [intOf]; omega
        · have hmi : decide ((m : Int) < (L : Int)) = false := decide_eq_false (by omega)
          go_wp2
          go_roundw
          case rel => exact ⟨k + 1, by omega, by go_num, HBY⟩
          case measure => simp [intOf]; omega
    · have hki : decide ((k : Int) < (nQ : Int)) = false := decide_eq_false (by omega)
      have m2r := Below.cellK hbr.out m2'
      have x3r := Below.cellK hbr.out x3'
      have x4r := Below.cellK hbr.out x4'
      go_wp2_with fail
      go_quiet (fail)
      have hB3 : Hid (Below w2.heap.size w2 (wr.drewN nq)) := below_drewN hbr.out nq
      obtain ⟨w3, hw3⟩ : ∃ W, W = wr.drewN nq := ⟨_, rfl⟩
      have m2s : w3.cell? ⟨mb, 2, none⟩ = some (.slice oa np oc) := by rw [hw3]; exact m2r
      have x3s : w3.cell? ⟨xb, 3, none⟩ = some (.slice ka np kc) := by rw [hw3]; exact x3r
      have x4s : w3.cell? ⟨xb, 4, none⟩ = some (.slice da np dc) := by rw [hw3]; exact x4r
      rw [← hw3] at hB3 ⊢
      clear hw3 m2r x3r x4r
      clear nq
      have hbw3 : Hid (Below w.heap.size w w3) := hB2.out.trans (hB3.out.mono hB2.out.size)
      go_wp2_with fail
      go_loopw [102] (fun i wr => ∃ k : Nat, k ≤ np ∧ i = .int .i64 (k : Int) ∧ Hid (Below w3.heap.size w3 wr)) (fun i _ => np - (intOf i).toNat)
      case atStart => exact ⟨0, Nat.zero_le _, rfl, Below.refl _ _⟩
      case round =>
        obtain ⟨j, hjl, rfl, hbj⟩ := hrel
        by_cases hj : j < np
        · have hbwj : Below w.heap.size w wr := hbw3.out.trans (hbj.out.mono hbw3.out.size)
          obtain ⟨og, kg, dg, code, a1, a2, D, c1, c2, l, rfl, rfl, rfl, hDl, hD, o0, o1, k0, d0, i1, i2⟩ := hO.out j hj
          have o0r := Below.cellK hbwj o0
          have o1r := Below.cellK hbwj o1
          have HDL : Hid (D = l.length) := hDl
          clear hDl
          have hji : (j : Int) < (np : Int) := by omega
          go_upto_region 24 with fail
          obtain ⟨wz, hwz⟩ : ∃ W, W = wr.alloc (Obj.cells #[Value.int IntKind.u16 code, Value.slice a1 D c1] 78) := ⟨_, rfl⟩
          obtain ⟨vb, hvb⟩ : ∃ v, v = wr.heap.size := ⟨_, rfl⟩
          have bz : Below w3.heap.size w3 wz := by rw [hwz]; exact hbj.out.alloc hbj.out.size _
          have hbz : Below w.heap.size w wz := hbw3.out.trans (bz.mono hbw3.out.size)
          have y0 : wz.cell? ⟨vb, 0, none⟩ = some (.int .u16 code) := by rw [hwz, hvb]; simp
          have y1 : wz.cell? ⟨vb, 1, none⟩ = some (.slice a1 D c1) := by rw [hwz, hvb]; simp
          have e3 := Below.cellK bz x3s
          have e4 := Below.cellK bz x4s
          have k0z := Below.cellK hbz k0
          have d0z := Below.cellK hbz d0
          have I1 := i1.below hbz
          have I2 := i2.below hbz
          have HBZ : Hid (Below w3.heap.size w3 wz) := bz
          rw [← hwz, ← hvb]
          clear hwz hvb bz hbz o0r o1r o0 o1 k0 d0 hbwj
          go_wp2_with fail
          have hcall : ∀ n, Calls Ybaf.prog 24 #[.slice a1 D c1, .slice a2 D c2] (wz.drewN n) fun e w' => e = .returned (.bool true) ∧ w' = wz.drewN n := fun n => (equal_any a1 a2 l c1 c2 D (wz.drewN n) HDL.out I1 I2).mono fun _ _ h => ⟨h.1, h.2.symm⟩
          go_quiet ((go_at_call 24; refine Calls.quiet_of_same (hcall _)))
          go_wp2
          go_roundw
          case rel => exact ⟨j + 1, by omega, by go_num, below_drewN HBZ.out nq⟩
          case measure => simp [intOf]; omega
        · have hji : decide ((j : Int) < (np : Int)) = false := decide_eq_false (by omega)
          go_wp2
          go_ret
          exact ⟨rfl, hbw3.out.trans (hbj.out.mono hbw3.out.size)⟩

end Go.Proofs.YbulkaxhmFmt
