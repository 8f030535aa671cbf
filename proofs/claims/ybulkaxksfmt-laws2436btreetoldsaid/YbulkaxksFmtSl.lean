/-
  slices.Clone, slices.BinarySearch.
-/
import Derived.Test.YbulkaxksFmtIns
set_option linter.unusedVariables false
set_option linter.unusedSimpArgs false
namespace Go.Proofs.YbulkaxksFmt
open Go.RowKit

theorem isNaN27 (x : Int) (w : World) : Calls Ybaf.prog 27 #[.int .i64 x] w fun e w' => e = .returned (.bool false) ∧ w = w' := by
  go_enter Ybaf.func27, Ybaf.ntmps27
  go_wp2
  go_ret
  exact ⟨by simp, rfl⟩
theorem isNaN30 (x : Int) (w : World) : Calls Ybaf.prog 30 #[.int .i64 x] w fun e w' => e = .returned (.bool false) ∧ w = w' := by
  go_enter Ybaf.func30, Ybaf.ntmps30
  go_wp2
  go_ret
  exact ⟨by simp, rfl⟩
theorem less_any (x y : Int) (w : World) : Calls Ybaf.prog 26 #[.int .i64 x, .int .i64 y] w fun e w' => e = .returned (.bool (decide (x < y))) ∧ w = w' := by
  go_enter Ybaf.func26, Ybaf.ntmps26
  go_wp2_with (go_at_call 30; refine (isNaN30 _ _).mono ?_; rintro e w1 ⟨rfl, rfl⟩)
  go_ret
  exact ⟨by simp, rfl⟩

set_option maxRecDepth 100000 in
theorem clone_any (lo : Nat) (ao : Option Addr) (cap : Nat) (l : List Nat) (w : World) (h : NatsAt w lo ao l) (h0 : ao = none → l.length = 0 ∧ cap = 0) (hl : l.length ≤ 20) :
    Calls Ybaf.prog 24 #[.slice ao l.length cap] w fun e w' => ∃ v, e = .returned v ∧ RowM w' w.heap.size 3 1 v l.length (ivs l) ∧ Below w.heap.size w w' := by
  obtain ⟨i3, hi3, hz30, hz31, hz32⟩ := info_parts Ybaf.kinfo3
  have hE0 : ∀ W, (binOp BinOp.eql 27 (.slice none 0 0) (.slice none 0 0)).run Ybaf.prog W = .ok (.bool true) W := fun _ => by kernel_rfl
  have hE1 : ∀ (a : Addr) (n c : Nat) W, (binOp BinOp.eql 27 (.slice (some a) n c) (.slice none 0 0)).run Ybaf.prog W = .ok (.bool false) W := fun _ _ _ _ => by kernel_rfl
  cases ao with
  | none =>
    obtain ⟨e1, e2⟩ := h0 rfl
    subst e2
    have el : l = [] := List.eq_nil_of_length_eq_zero e1
    subst el
    go_enter Ybaf.func24, Ybaf.ntmps24
    go_wp2
    go_ret
    exact ⟨_, rfl, ⟨rfl, .inl ⟨rfl, rfl⟩⟩, Below.refl _ _⟩
  | some a =>
    have hb1 : 0 + l.length ≤ 100000000 := by omega
    have hcell : ∀ j u, (ivs l)[j]? = some u → w.cell? (a.add j) = some u := fun j u hu => by
      have hj := (List.getElem?_eq_some_iff.1 hu).1
      rw [ivs_length] at hj
      obtain ⟨b, e, _, hc⟩ := h j hj
      injection e with e
      subst e
      rw [add_zero_off, hc, ← hu]
      simp [ivs, List.getElem?_eq_getElem hj]
    have hrow0 : RowM (w.alloc (.cells #[] 3)) w.heap.size 3 1 (.slice (some ⟨w.heap.size, 0, none⟩) 0 0) 0 [] := ⟨rfl, .inr ⟨w.heap.size, 0, #[], (0, 0), rfl, Nat.le_refl _, heap_alloc_new w _, .inl rfl, Nat.le_refl _, by decide, rfl, rfl⟩⟩
    have hsrc : Src Ybaf.prog 1 27 (.slice (some a) l.length cap) l.length (ivs l) (w.alloc (.cells #[] 3)) := Src.ofSlice _ Ybaf.underlying27 a l.length cap (ivs l) (by rw [ivs_length, Nat.mul_one]) (fun j u hu => cell_old (hcell j u hu) _) (ivs_one l)
    go_enter Ybaf.func24, Ybaf.ntmps24
    go_wp2_with (at_builtin; refine wpList_append_rowK _ rfl (.tmp 5) (.tmp 6) 27 27 rfl w.heap.size 3 i3 (.int .i64 0) 1 8 Ybaf.underlying27 hi3 hz30 hz31 hz32 rfl (.slice (some ⟨w.heap.size, 0, none⟩) 0 0) 0 [] rfl hrow0 _ l.length (ivs l) rfl hsrc (max_ok hb1) (bytes_ok hb1 (by decide)) (by simp) ?_; intro v1 w3 h1 h2 h3 h4 h5)
    go_ret
    refine ⟨v1, rfl, by simpa using h1, ?_⟩
    exact ((Below.refl _ _).alloc (Nat.le_refl _) _).grown h2 (by simp) (fun k hk => by simp [Value.ownBlock] at hk; omega)

set_option maxRecDepth 100000 in
theorem search_any (lo : Nat) (ao : Option Addr) (cap x : Nat) (l : List Nat) (w : World) (h : Hid (NatsAt w lo ao l)) (hl : l.length ≤ 20) :
    Calls Ybaf.prog 22 #[.slice ao l.length cap, .int .i64 (x : Int)] w fun e w' => ∃ k b, e = .returned (.tuple #[.int .i64 ((k : Nat) : Int), .bool b]) ∧ k ≤ l.length ∧ w = w' := by
  obtain ⟨n, hn⟩ : ∃ n, n = l.length := ⟨_, rfl⟩
  have HN : Hid (n = l.length) := hn
  rw [← hn] at hl ⊢
  clear hn
  go_enter Ybaf.func22, Ybaf.ntmps22
  go_wp2_with fail
  go_loopw [7, 8] (fun a b wr => ∃ i j : Nat, a = .int .i64 (i : Int) ∧ b = .int .i64 (j : Int) ∧ i ≤ j ∧ j ≤ n ∧ w = wr) (fun a b _ => (intOf b).toNat - (intOf a).toNat)
  case atStart => exact ⟨0, n, rfl, rfl, Nat.zero_le _, Nat.le_refl _, rfl⟩
  case round =>
    obtain ⟨i, j, rfl, rfl, hij, hjn, rfl⟩ := hrel
    by_cases hlt : i < j
    · have hlti : (i : Int) < (j : Int) := by omega
      obtain ⟨m, hm⟩ : ∃ m, m = (i + j) / 2 := ⟨_, rfl⟩
      have hm1 : i ≤ m := by omega
      have hm2 : m < j := by omega
      obtain ⟨b, hao, _, hc⟩ := h.out m (by have := HN.out; omega)
      subst hao
      have hmi : (m : Int) < (n : Int) := by omega
      obtain ⟨y, hy⟩ : ∃ y, some y = l[m]? := ⟨l[m]'(by have := HN.out; omega), by rw [List.getElem?_eq_getElem (by have := HN.out; omega)]⟩
      have hc' : w.cell? ⟨b, m, none⟩ = some (.int .i64 (y : Int)) := by
        rw [List.getElem?_eq_getElem (by have := HN.out; omega)] at hy
        injection hy with hy
        rw [hc, ← hy]; rfl
      clear hc hy
      have HM : Hid (m = (i + j) / 2) := hm
      clear hm
      have hw1 : IntKind.i64.wrap ((i : Int) + (j : Int)) = (i : Int) + j := by rw [IntKind.wrap_i64]; omega
      have hw2 : IntKind.u64.wrap ((i : Int) + (j : Int)) = (i : Int) + j := by rw [IntKind.wrap_u64]; omega
      have hw3 : ((i : Int) + (j : Int)) / 2 = (m : Int) := by have := HM.out; omega
      have hw4 : IntKind.i64.wrap (m : Int) = (m : Int) := by rw [IntKind.wrap_i64]; omega
      have hw5 : IntKind.u64.wrap (m : Int) = (m : Int) := by rw [IntKind.wrap_u64]; omega
      by_cases hless : (y : Int) < (x : Int)
      · have hd : decide ((y : Int) < (x : Int)) = true := decide_eq_true hless
        go_wp2_with (go_at_call 26; refine (less_any _ _ _).mono ?_; rintro e w1 ⟨rfl, rfl⟩)
        go_roundw
        case rel => exact ⟨m + 1, j, by go_num, rfl, by omega, hjn, by trivial⟩
        case measure => simp [intOf]; omega
      · have hd : decide ((y : Int) < (x : Int)) = false := decide_eq_false hless
        go_wp2_with (go_at_call 26; refine (less_any _ _ _).mono ?_; rintro e w1 ⟨rfl, rfl⟩)
        go_roundw
        case rel => exact ⟨i, m, rfl, by go_num, hm1, by omega, by trivial⟩
        case measure => simp [intOf]; omega
    · have hlti : decide ((i : Int) < (j : Int)) = false := decide_eq_false (by omega)
      by_cases hin : i < n
      · have hini : decide ((i : Int) < (n : Int)) = true := decide_eq_true (by omega)
        have hini2 : (i : Int) < (n : Int) := by omega
        obtain ⟨b, hao, _, hc⟩ := h.out i (by have := HN.out; omega)
        subst hao
        obtain ⟨y, hy⟩ : ∃ y, some y = l[i]? := ⟨l[i]'(by have := HN.out; omega), by rw [List.getElem?_eq_getElem (by have := HN.out; omega)]⟩
        have hc' : w.cell? ⟨b, i, none⟩ = some (.int .i64 (y : Int)) := by
          rw [List.getElem?_eq_getElem (by have := HN.out; omega)] at hy
          injection hy with hy
          rw [hc, ← hy]; rfl
        clear hc hy
        by_cases hyx : y = x
        · subst hyx
          go_wp2
          go_ret2
          exact ⟨i, _, rfl, by omega, rfl⟩
        · have hyx' : ¬ (y : Int) = (x : Int) := by omega
          have hyb : ((y : Int) == (x : Int)) = false := by rw [beq_eq_false_iff_ne]; exact hyx'
          go_wp2_with (go_at_call 27; refine (isNaN27 _ _).mono ?_; rintro e w1 ⟨rfl, rfl⟩)
          go_ret2
          exact ⟨i, _, rfl, by omega, rfl⟩
      · have hini : decide ((i : Int) < (n : Int)) = false := decide_eq_false (by omega)
        go_wp2
        go_ret2
        exact ⟨i, _, rfl, by omega, rfl⟩

end Go.Proofs.YbulkaxksFmt
