/-
  The small functions: Rounds, the law's bounds, what the law expects.
-/
import Derived.Test.YbulkaxksFmtBk
set_option linter.unusedVariables false
set_option linter.unusedSimpArgs false
namespace Go.Proofs
open Go.RowKit
theorem Ybaf.kinfo37 : (Ybaf.prog.info? 37).map (fun i => (i.zero, i.size)) = some (some (.agg #[.int .i64 0, .int .i64 0, .int .i64 0, .int .u8 0, .int .i64 0, .int .i64 0, .int .i64 0, .int .i64 0, .int .i64 0, .int .i64 0, .int .i64 0, .int .i64 0]), 12) := by kernel_rfl
namespace YbulkaxksFmt

/-- MAPBounds' cells. -/
def bdXs (bg cn fg fl fu q0 q1 q2 q3 : Int) : Array Value :=
  #[.int .i64 bg, .int .i64 0, .int .i64 cn, .int .u8 0, .int .i64 fg, .int .i64 fl, .int .i64 fu, .int .i64 0, .int .i64 q0, .int .i64 q1, .int .i64 q2, .int .i64 q3]
def roundsOf (h q0 q1 q2 q3 : Int) : Int := if h = 1 then q0 else if h = 2 then q1 else if h = 3 then q2 else q3

theorem rounds_any (bg cn fg fl fu q0 q1 q2 q3 h : Int) (w : World) (hh : 0 ≤ h ∧ h < 4) :
    Calls Ybaf.prog 11 #[.agg (bdXs bg cn fg fl fu q0 q1 q2 q3), .int .u8 h] w fun e w' => e = .returned (.int .i64 (roundsOf h q0 q1 q2 q3)) ∧ Below w.heap.size w w' := by
  obtain ⟨i37, hi37, hz37⟩ : ∃ i, Ybaf.prog.info? 37 = some i ∧ i.size = 12 := by
    have := Ybaf.kinfo37
    cases hq : Ybaf.prog.info? 37 with
    | none => rw [hq] at this; simp at this
    | some i => rw [hq] at this; simp at this; exact ⟨i, rfl, this.2⟩
  unfold bdXs
  obtain rfl | rfl | rfl | rfl : h = 0 ∨ h = 1 ∨ h = 2 ∨ h = 3 := by omega
  all_goals (go_enter Ybaf.func11, Ybaf.ntmps11; go_wp2; go_ret; exact ⟨by simp [roundsOf], ((Below.refl _ _).alloc (Nat.le_refl _) _)⟩)

/-- The law's input's cells. -/
def inXs (G : Int) (sv : Value) (all : Bool) (mask hh sr bg cn fg fu fl r0 r1 r2 r3 : Int) : Array Value :=
  #[.int .u8 G, sv, .bool all, .int .u8 mask, .int .u8 hh, .int .u8 sr, .int .i8 bg, .int .i8 cn, .int .i8 fg, .int .i8 fu, .int .i8 fl, .int .u8 r0, .int .u8 r1, .int .u8 r2, .int .u8 r3]

theorem bounds_any (G : Int) (sa : Option Addr) (zn zc : Nat) (all : Bool) (mask hh sr bg cn fg fu fl r0 r1 r2 r3 : Int) (w : World)
    (b1 : -128 ≤ bg ∧ bg ≤ 127) (b2 : -128 ≤ cn ∧ cn ≤ 127) (b3 : -128 ≤ fg ∧ fg ≤ 127) (b4 : -128 ≤ fu ∧ fu ≤ 127) (b5 : -128 ≤ fl ∧ fl ≤ 127)
    (c0 : 0 ≤ r0 ∧ r0 ≤ 255) (c1 : 0 ≤ r1 ∧ r1 ≤ 255) (c2 : 0 ≤ r2 ∧ r2 ≤ 255) (c3 : 0 ≤ r3 ∧ r3 ≤ 255) :
    Calls Ybaf.prog 7 #[.agg (inXs G (.slice sa zn zc) all mask hh sr bg cn fg fu fl r0 r1 r2 r3)] w fun e w' => e = .returned (.agg (bdXs bg cn fg fl fu (r0 % 5) (r1 % 5) (r2 % 5) (r3 % 5))) ∧ Below w.heap.size w w' := by
  unfold inXs
  have w1 : IntKind.i64.wrap bg = bg := by rw [IntKind.wrap_i64]; omega
  have w2 : IntKind.i64.wrap cn = cn := by rw [IntKind.wrap_i64]; omega
  have w3 : IntKind.i64.wrap fg = fg := by rw [IntKind.wrap_i64]; omega
  have w4 : IntKind.i64.wrap fu = fu := by rw [IntKind.wrap_i64]; omega
  have w5 : IntKind.i64.wrap fl = fl := by rw [IntKind.wrap_i64]; omega
  go_enter Ybaf.func7, Ybaf.ntmps7
  go_wp2
  (try simp only [Exit.inBlock, Exit.then])
  refine bodyPost_ret (v := (.agg (bdXs bg cn fg fl fu (r0 % 5) (r1 % 5) (r2 % 5) (r3 % 5)))) ?_ rfl ?_
  · have hres : Ybaf.f7.results = #[.cell 2 37] := by rfl
    simp only [results, hres]
    go_simp
    simp [asAddr, bdXs]
  · exact ⟨rfl, ((Below.refl _ _).alloc (Nat.le_refl _) _).alloc (by simp) _⟩

def canL (h : Int) : Bool := h == 0 || h == 2
def canP (h : Int) : Bool := h == 0 || h == 3
def corrOf (h : Int) (fully : Bool) (bg : Int) : Bool := (canL h || (canP h && !fully)) && decide (1 < bg)
def fullN (deg : List Nat) : Bool := decide (deg.sum / 2 = deg.length * (deg.length - 1) / 2)

theorem sum_le12 : ∀ (l : List Nat), (∀ x ∈ l, x ≤ 12) → l.sum ≤ 12 * l.length
  | [], _ => by simp
  | a :: t, h => by
    have h1 := h a (List.mem_cons_self ..)
    have h2 := sum_le12 t (fun x hx => h x (List.mem_cons_of_mem _ hx))
    simp only [List.sum_cons, List.length_cons]
    omega

set_option maxRecDepth 100000 in
set_option maxHeartbeats 1000000 in
theorem expect_any (G : Int) (sa : Option Addr) (zn zc : Nat) (all : Bool) (mask hh sr bg cn fg fu fl r0 r1 r2 r3 : Int) (da : Option Addr) (dc : Nat) (deg : List Nat) (w : World)
    (b0 : 0 ≤ hh ∧ hh ≤ 255) (b1 : -128 ≤ bg ∧ bg ≤ 127) (c0 : 0 ≤ r0 ∧ r0 ≤ 255) (c1 : 0 ≤ r1 ∧ r1 ≤ 255) (c2 : 0 ≤ r2 ∧ r2 ≤ 255) (c3 : 0 ≤ r3 ∧ r3 ≤ 255)
    (hd : Hid (NatsAt w 0 da deg)) (hn : 1 ≤ deg.length ∧ deg.length ≤ 4) (hs : Hid (∀ x ∈ deg, x ≤ 12)) :
    Calls Ybaf.prog 8 #[.agg (inXs G (.slice sa zn zc) all mask hh sr bg cn fg fu fl r0 r1 r2 r3), .slice da deg.length dc] w fun e w' =>
      e = .returned (.tuple #[.int .i64 (roundsOf (hh % 4) (r0 % 5) (r1 % 5) (r2 % 5) (r3 % 5)), .bool (corrOf (hh % 4) (fullN deg) bg), .bool (fullN deg)]) ∧ Below w.heap.size w w' := by
  unfold inXs
  obtain ⟨n, hnd⟩ : ∃ n, n = deg.length := ⟨_, rfl⟩
  have HND : Hid (n = deg.length) := hnd
  rw [← hnd] at hn ⊢
  clear hnd
  have w1 : IntKind.i64.wrap bg = bg := by rw [IntKind.wrap_i64]; omega
  go_enter Ybaf.func8, Ybaf.ntmps8
  go_upto_region 4 with fail
  have B1 : Hid (Below w.heap.size w (w.alloc (Obj.cells (inXs G (.slice sa zn zc) all mask hh sr bg cn fg fu fl r0 r1 r2 r3) 25))) := (Below.refl _ _).alloc (Nat.le_refl _) _
  have e0 := fun j (v : Value) (h : (inXs G (.slice sa zn zc) all mask hh sr bg cn fg fu fl r0 r1 r2 r3).toList[j]? = some v) => news_alloc w (inXs G (.slice sa zn zc) all mask hh sr bg cn fg fu fl r0 r1 r2 r3).toList 25 j v h
  simp only [add_zero_off] at e0
  have y4 := e0 4 _ rfl
  have y6 := e0 6 _ rfl
  have y11 := e0 11 _ rfl
  have y12 := e0 12 _ rfl
  have y13 := e0 13 _ rfl
  have y14 := e0 14 _ rfl
  clear e0
  simp only [inXs] at B1 y4 y6 y11 y12 y13 y14
  obtain ⟨x0, hx0⟩ : ∃ x, x = (w.alloc (Obj.cells #[.int .u8 G, (.slice sa zn zc), .bool all, .int .u8 mask, .int .u8 hh, .int .u8 sr, .int .i8 bg, .int .i8 cn, .int .i8 fg, .int .i8 fu, .int .i8 fl, .int .u8 r0, .int .u8 r1, .int .u8 r2, .int .u8 r3] 25)) := ⟨_, rfl⟩
  rw [← hx0] at B1 y4 y6 y11 y12 y13 y14 ⊢
  have HD : Hid (NatsAt x0 0 da deg) := hd.out.below B1.out
  clear hx0 hd
  go_loopw [8, 20] (fun a b wr => wr = x0 ∧ ∃ (j : Nat), j ≤ n ∧ a = .int .i64 (((deg.take j).sum : Nat) : Int) ∧ b = .int .i64 (j : Int)) (fun _ b _ => n - (intOf b).toNat)
  case atStart => exact ⟨rfl, 0, Nat.zero_le _, by simp, rfl⟩
  case round =>
    obtain ⟨rfl, j, hjn, rfl, rfl⟩ := hrel
    by_cases hj : j < n
    · have hji : (j : Int) < (n : Int) := by omega
      have hjd : j < deg.length := by have := HND.out; omega
      obtain ⟨db, rfl, -, cj⟩ := HD.out j hjd
      obtain ⟨d, hdd⟩ : ∃ d, d = deg[j] := ⟨_, rfl⟩
      rw [← hdd] at cj
      unfold iv at cj
      have hd12 : d ≤ 12 := by rw [hdd]; exact hs.out _ (List.getElem_mem hjd)
      have HDD : Hid (d = deg[j]) := hdd
      clear hdd
      have hsl : (deg.take j).sum ≤ 48 := by
        have h1 := sum_le12 (deg.take j) (fun x hx => hs.out x (List.mem_of_mem_take hx))
        rw [List.length_take] at h1
        omega
      have HS : Hid ((deg.take (j + 1)).sum = (deg.take j).sum + d) := by show _ = _; rw [sum_take_succ hjd, HDD.out]
      obtain ⟨S, hS⟩ : ∃ S, S = (deg.take j).sum := ⟨_, rfl⟩
      rw [← hS] at hsl HS ⊢
      clear hS
      have hwS : IntKind.i64.wrap ((S : Int) + (d : Int)) = (S : Int) + (d : Int) := by rw [IntKind.wrap_i64]; omega
      go_wp2_with fail
      go_roundw
      case rel => exact ⟨by trivial, j + 1, hj, by rw [HS.out]; push_cast; rfl, by go_num⟩
      case measure => simp [intOf]; omega
    · have hji : decide ((j : Int) < (n : Int)) = false := decide_eq_false (by omega)
      have hje : j = n := by omega
      subst hje
      have HT : Hid (deg.take j = deg) := by show _ = _; rw [HND.out]; exact List.take_length
      rw [HT.out]
      have hsl : deg.sum ≤ 48 := by
        have h1 := sum_le12 deg hs.out
        have := HND.out
        omega
      obtain ⟨S, hS⟩ : ∃ S, S = deg.sum := ⟨_, rfl⟩
      obtain ⟨M, hM⟩ : ∃ M, M = j * (j - 1) := ⟨_, rfl⟩
      have hf : fullN deg = decide (S / 2 = M / 2) := by unfold fullN; rw [← hS, hM, HND.out]
      have HF : Hid (fullN deg = decide (S / 2 = M / 2)) := hf
      rw [← hS] at hsl ⊢
      have hw1 : IntKind.i64.wrap ((j : Int) - 1) = (j : Int) - 1 := by rw [IntKind.wrap_i64]; omega
      have hMe : (j : Int) * ((j : Int) - 1) = (M : Int) := by
        rw [hM]
        obtain rfl | rfl | rfl | rfl : j = 1 ∨ j = 2 ∨ j = 3 ∨ j = 4 := by omega
        all_goals rfl
      have hM12 : M ≤ 12 := by
        rw [hM]
        obtain rfl | rfl | rfl | rfl : j = 1 ∨ j = 2 ∨ j = 3 ∨ j = 4 := by omega
        all_goals decide
      have hw2 : IntKind.i64.wrap ((j : Int) * ((j : Int) - 1)) = (M : Int) := by rw [hMe, IntKind.wrap_i64]; omega
      have hq1 : Int.tdiv (S : Int) 2 = ((S / 2 : Nat) : Int) := by rw [Int.tdiv_eq_ediv_of_nonneg (by omega)]; omega
      have hq2 : Int.tdiv (M : Int) 2 = ((M / 2 : Nat) : Int) := by rw [Int.tdiv_eq_ediv_of_nonneg (by omega)]; omega
      obtain ⟨A, hA⟩ : ∃ A, A = S / 2 := ⟨_, rfl⟩
      obtain ⟨C, hC⟩ : ∃ C, C = M / 2 := ⟨_, rfl⟩
      have hA24 : A ≤ 24 := by omega
      have hC24 : C ≤ 24 := by omega
      rw [← hA] at hq1 HF
      rw [← hC] at hq2 HF
      have hwA : IntKind.i64.wrap (A : Int) = (A : Int) := by rw [IntKind.wrap_i64]; omega
      have hwC : IntKind.i64.wrap (C : Int) = (C : Int) := by rw [IntKind.wrap_i64]; omega
      clear hA hC hM hMe hf hS
      obtain ⟨fu', hfu⟩ : ∃ b, ((A : Int) == (C : Int)) = b := ⟨_, rfl⟩
      have HFU : Hid (fullN deg = fu') := by show _ = _; rw [HF.out, ← hfu, Bool.eq_iff_iff]; simp [Int.ofNat_inj]
      clear HF
      obtain h4 | h4 | h4 | h4 : hh % 4 = 0 ∨ hh % 4 = 1 ∨ hh % 4 = 2 ∨ hh % 4 = 3 := by omega
      all_goals (cases fu' <;> (go_wp2_with fail; go_ret3; exact ⟨by rw [HFU.out]; simp [roundsOf, corrOf, canL, canP, h4], B1.out⟩))

end YbulkaxksFmt
end Go.Proofs
