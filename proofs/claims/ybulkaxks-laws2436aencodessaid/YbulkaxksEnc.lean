/-
  The walk of LawS2436AEncodes.
-/
import Derived.Test.YbulkaxksIdx
import Derived.Laws.CopyOwn
import Derived.Deep.OwnRows
import Derived.OwnWalk
import Derived.WalkSpells
import Derived.BigQuiet
import Derived.WalkSmall
import Derived.Deep.QuietTactic
set_option linter.unusedVariables false
set_option linter.unusedSimpArgs false
namespace Go.Proofs.Ybulkaxks
open Go.RowKit

theorem indexes_got (v : Value) (n : Nat) (xs : List Value) (ai : Option Addr) (len icap : Nat) (zs : List Int) (w0 w : World) (C : List Value) (hC : Hid (C = xs ++ q32 len ++ encI (zs.take len))) (hown : w.ownsRow w0.heap.size 5 1 v n xs) (hn : n ≤ 1024)
    (hl : len ≤ 1024) (hz : len ≤ zs.length) (hb : Below w0.heap.size w0 w) (hi : Nums .i64 w0 ai len zs) :
    Calls Yba.prog 4 #[v, .slice ai len icap] w fun e w' => ∃ g cap, e = .returned (.slice (some ⟨g, 0, none⟩) (n + 4 + 4 * len) cap) ∧ w'.ownsRow w0.heap.size 5 1 (.slice (some ⟨g, 0, none⟩) (n + 4 + 4 * len) cap) (n + 4 + 4 * len) C ∧ g < w'.heap.size ∧ Below w0.heap.size w0 w' := by
  have hgb : ∀ w', w.grownBy w' v.ownBlock → Below w0.heap.size w0 w' := fun w' hg => hb.grown hg hb.size (fun k hk => (hown.lt k hk).1)
  refine (indexes_any w0.heap.size v n xs ai len icap zs w hown hn hb.size hl hz (fun w' hg => hi.later (hgb w' hg))).mono ?_
  rintro e w' ⟨bv, iv, rfl, hiv, k, g, cap, cs, hk, hkk, rfl, ho, hcs, hg, hat, hlt⟩
  rw [hkk] at hiv
  injection hiv with _ hiv
  obtain rfl : k = len := by omega
  exact ⟨g, cap, rfl, by rw [hC.out, ← hcs.out]; exact ho, hlt, hgb _ hg⟩

theorem ints_q32 (x : Int) : ∀ u ∈ q32 x, ∃ z, u = .int .u8 z := by
  intro u hu
  simp only [q32, List.mem_cons, List.not_mem_nil, or_false] at hu
  rcases hu with rfl | rfl | rfl | rfl <;> exact ⟨_, rfl⟩
theorem ints_encI (zs : List Int) : ∀ u ∈ encI zs, ∃ z, u = .int .u8 z := by
  intro u hu
  simp only [encI, List.mem_flatMap] at hu
  obtain ⟨z, _, hz⟩ := hu
  exact ints_q32 _ u hz
theorem length_encI (zs : List Int) : (encI zs).length = 4 * zs.length := by
  induction zs with
  | nil => rfl
  | cons z r ih => simp only [encI, List.flatMap_cons, List.length_append, List.length_cons] at *; rw [ih]; simp [q32]; omega

/-- The copy of b. -/
theorem copied {w' : World} {base g n : Nat} {X cur : List Value} (hX : X.length = n) (hc : cur.length = n) (hm : n ≤ maxLen) (hb : base ≤ g) (h : Hid (w'.heap[g]? = some (.cells (splice cur 0 X).toArray 5 (0, 0)))) :
    w'.ownsRow base 5 1 (.slice (some ⟨g, 0, none⟩) n n) n X := by
  have hs : splice cur 0 X = X := by unfold splice; rw [List.drop_eq_nil_of_le (by omega)]; simp
  rw [hs] at h
  exact ⟨by simpa using hX, .inr ⟨g, n, X.toArray, rfl, hb, h.out, Nat.le_refl _, hm, by simpa using hX, by rw [Nat.mul_one]; exact List.take_of_length_le (Nat.le_of_eq hX)⟩⟩

def CRel (w w3 : World) (m : Nat) (iv : Value) (wr : World) : Prop := ∃ k : Nat, k ≤ m ∧ iv = .int .i64 k ∧ Hid (wr.heap = w3.heap) ∧ Below w.heap.size w wr
theorem cell_heap {w w' : World} (h : Hid (w'.heap = w.heap)) (a : Addr) : w'.cell? a = w.cell? a := by
  unfold World.cell?; rw [h.out]

set_option maxHeartbeats 1000000 in
theorem enc_some (x0 : Addr) (len0 cap0 : Nat) (X : List Value) (a1 : Option Addr) (len1 cap1 : Nat) (z1 : List Int) (C : List Value) (w : World) (h0 : len0 ≤ 1024) (h1 : len1 ≤ 1024) (hz : len1 ≤ z1.length) (hXl : X.length = len0)
    (hXc : Hid (∀ ad : Addr, some x0 = some ad → ∀ j u, X[j]? = some u → w.cell? (ad.add j) = some u)) (hX1 : ∀ u ∈ X, ∃ z, u = .int .u8 z) (hC : Hid (C = X ++ q32 len1 ++ encI (z1.take len1))) (hCl : C.length = len0 + 4 + 4 * len1) (hCi : Hid (∀ u ∈ C, ∃ z, u = .int .u8 z)) (hN : Hid (Nums .i64 w a1 len1 z1)) :
    Calls Yba.prog 3 #[.slice (some x0) len0 cap0, .slice a1 len1 cap1] w fun e w' => e = .returned (.bool true) ∧ Below w.heap.size w w' := by
  obtain ⟨i5, hi5, hz50, hz51, hz52⟩ := info_parts Yba.info5
  have hXo : ∀ u ∈ X, u.oneCell' = true := fun u hu => by obtain ⟨z, rfl⟩ := hX1 u hu; rfl
  have HX1 : Hid (∀ u ∈ X, u.oneCell' = true) := hXo
  clear hXo hX1
  have t0 : decide ((1024 : Int) < (len0 : Int)) = false := decide_eq_false (by omega)
  have t1 : decide ((1024 : Int) < (len1 : Int)) = false := decide_eq_false (by omega)
  have hne : (binOp .neq 22 (.slice (some x0) len0 cap0) (.slice none 0 0)).run Yba.prog w = .ok (.bool true) w := run_neq_slice_nil_any w 22 5 (some x0) len0 cap0 0 0 Yba.underlying22
  go_enter Yba.func3, Yba.ntmps3
  have hlenz : (madeCells #[Value.int .u8 0] len0).toList.length = len0 := by simp [madeCells]
  obtain ⟨cur, hcur⟩ : ∃ cur, cur = (madeCells #[Value.int .u8 0] len0).toList := ⟨_, rfl⟩
  rw [← hcur] at hlenz
  have HCUR : Hid (madeCells #[Value.int .u8 0] len0 = cur.toArray) := by rw [hcur]; exact (Array.toArray_toList).symm
  clear hcur
  have hsz : (Yba.prog.info? 5).map (·.size) = some 1 := by rw [hi5]; simp [hz51]
  have hmn : X.length = Nat.min len0 len0 := by rw [hXl]; exact (Nat.min_self _).symm
  have hpos : 0 < X.length → some (⟨w.heap.size, 0, none⟩ : Addr) = some ⟨w.heap.size, 0, none⟩ ∧ ∃ ad, some x0 = some ad ∧ ∀ j v, X[j]? = some v → (w.alloc (.cells cur.toArray 5)).cell? (ad.add j) = some v :=
    fun _ => ⟨rfl, _, rfl, fun j u hu => (World.cell?_of_block (Below.heap_alloc w _ _ (World.block_lt_of_cell? w _ (hXc.out _ rfl j u hu)))).trans (hXc.out _ rfl j u hu)⟩
  have hbl : Below w.heap.size w (w.alloc (.cells cur.toArray 5)) := (Below.refl _ w).alloc (Nat.le_refl _) _
  have HP : Hid (0 < X.length → some (⟨w.heap.size, 0, none⟩ : Addr) = some ⟨w.heap.size, 0, none⟩ ∧ ∃ ad, some x0 = some ad ∧ ∀ j v, X[j]? = some v → (w.alloc (.cells cur.toArray 5)).cell? (ad.add j) = some v) := hpos
  have HM : Hid (X.length = Nat.min len0 len0) := hmn
  clear hpos hmn
  go_wp2_with (first | (refine wpList_make_row _ rfl (.tmp 21) (.tmp 21) 22 rfl 5 i5 (.int .u8 0) Yba.underlying22 hi5 hz50 hz51 rfl .i64 .i64 len0 rfl rfl (by rw [hz52]; omega) (by omega) ?_; rw [HCUR.out]) | (refine wpList_copy_splice rfl (.tmp 23) (.tmp 24) 22 22 rfl 5 Yba.underlying22 hsz (some ⟨w.heap.size, 0, none⟩) (some x0) len0 len0 len0 cap0 rfl rfl w.heap.size 0 cur 5 (heap_alloc_new w _) X HM.out HP.out (by omega) HX1.out w.heap.size w hbl (Nat.le_refl _) ?_))
  intro w2 HG2 hB2
  have hbc := copied (base := w.heap.size) hXl hlenz (by unfold maxLen; omega) (Nat.le_refl _) HG2
  go_wp2_with (first | (go_at_call 4; refine (indexes_got _ len0 X a1 len1 cap1 z1 w _ C hC hbc h0 h1 hz hB2 hN.out).mono ?_; rintro e w3 ⟨g, gcap, rfl, hgot, hgl, hB3⟩) | (refine wpList_make_own _ rfl (.const (.int .i64 0)) (.tmp 35) 22 rfl w.heap.size 5 i5 (.int .u8 0) 1 Yba.underlying22 hi5 hz50 hz51 .i64 .i64 _ (len0 + 4 + 4 * len1) rfl rfl (by omega) (by rw [hz52]; omega) (by unfold maxLen; omega) hB3.size ?_))
  intro w4 hw4 hg4
  have hB4 : Below w.heap.size w w4 := hB3.grown hg4 hB3.size (by simp)
  go_wp2_with (at_builtin; refine wpList_append_fits_any _ rfl (.tmp 37) (.tmp 38) 22 rfl w.heap.size 5 i5 1 Yba.underlying22 hi5 hz51 w3.heap.size 0 (len0 + 4 + 4 * len1) [] rfl hw4 (some x0) len0 cap0 X rfl (by omega) (by simp) (fun ad had j u hu => (World.cell?_of_block (hB4.block _ (World.block_lt_of_cell? w _ (hXc.out ad had j u hu)))).trans (hXc.out ad had j u hu)) HX1.out (by omega) ?_)
  intro w5 hw5 hg5
  have hB5 : Below w.heap.size w w5 := hB4.grown hg5 hB4.size (fun k hk => by injection hk with hk; have := hB3.size; omega)
  have hgot4 := hgot.kept hg4 (by simp [Value.ownBlock])
  have hgot5 := hgot4.kept hg5 (by simp [Value.ownBlock]; omega)
  go_wp2_with (go_at_call 5; refine (put_any w.heap.size _ len0 X _ _ hw5 (by omega) hB5.size (by omega) (by omega)).mono ?_; rintro e w6 ⟨gw, cap6, rfl, ho6, hg6, hat6, hlt6⟩)
  go_loopw [7, 8] (fun wv kv wr => IRel w5 w.heap.size (.slice (some ⟨w3.heap.size, 0, none⟩) len0 (len0 + 4 + 4 * len1)) len0 X len1 z1 wv kv wr) (fun _ kv _ => len1 - (intOf kv).toNat)
  case atStart => exact irel_start ho6 hg6 hat6 hlt6
  case round =>
    obtain ⟨k, g2, cap2, cs, hk, rfl, rfl, ho2, hcs, hg2, hat2, hlt2⟩ := hrel
    have hBr : Below w.heap.size w wr := hB5.grown hg2 hB5.size (fun k hk => by have := hB3.size; simp [Value.ownBlock] at hk; omega)
    by_cases hlt' : k < len1
    · obtain ⟨x, hx, hc⟩ := (hN.out.later hBr) k hlt'
      subst hx
      obtain ⟨z, hzz⟩ : ∃ z, z = z1.getD k 0 := ⟨_, rfl⟩
      rw [← hzz] at hc
      have HZ : Hid (z = z1.getD k 0) := hzz
      clear hzz
      go_wp2_with (go_at_call 5; refine (put_any w.heap.size _ (len0 + 4 + 4 * k) cs _ _ ho2 (by omega) hBr.size (by omega) (by omega)).mono ?_; rintro e w7 ⟨g3, cap3, rfl, ho3, hg3, hat3, hlt3⟩)
      go_roundw
      case rel =>
        have hstep := irel_step (base := w.heap.size) (cap' := cap3) hlt' hz hcs hg2 hat2 (by rw [← HZ.out]; exact ho3) hg3 hat3 hlt3
        exact hstep
      case measure => simp [intOf]; omega
    · obtain rfl : k = len1 := by omega
      have hwant : wr.ownsRow w.heap.size 5 1 (.slice (some ⟨g2, 0, none⟩) (len0 + 4 + 4 * k) cap2) (len0 + 4 + 4 * k) C := by rw [hC.out, ← hcs.out]; exact ho2
      have hgotr := hgot5.kept hg2 (by simp [Value.ownBlock]; omega)
      obtain ⟨wo, rfl⟩ : ∃ x : World, x = wr := ⟨_, rfl⟩
      go_wp2
      go_loopw [9] (fun iv wr => CRel w wo (len0 + 4 + 4 * k) iv wr) (fun iv _ => len0 + 4 + 4 * k - (intOf iv).toNat)
      case atStart => exact ⟨0, by omega, rfl, rfl, hBr⟩
      case round =>
        obtain ⟨j, hj, rfl, hh, hBj⟩ := hrel
        by_cases hlj : j < len0 + 4 + 4 * k
        · obtain ⟨z, hzc⟩ := hCi.out _ (List.getElem_mem (by omega : j < C.length))
          have c1 : wr.cell? ⟨g, j, none⟩ = some (.int .u8 z) := by rw [cell_heap hh, hgotr.cellAt j (by omega), List.getElem?_eq_getElem (by omega), hzc]
          have c2 : wr.cell? ⟨g2, j, none⟩ = some (.int .u8 z) := by rw [cell_heap hh, hwant.cellAt j (by omega), List.getElem?_eq_getElem (by omega), hzc]
          clear hzc
          have hlj' : (j : Int) < (len0 : Int) + 4 + 4 * (k : Int) := by omega
          go_wp2_with fail
          go_quiet (fail)
          go_wp2_with fail
          go_roundw
          case rel => exact ⟨j + 1, by omega, by go_num, hh, below_drewN hBj _⟩
          case measure => simp [intOf]; omega
        · go_wp2
          go_ret
          exact ⟨rfl, hBj⟩

set_option maxHeartbeats 1000000 in
theorem enc_none (len0 cap0 : Nat) (X : List Value) (a1 : Option Addr) (len1 cap1 : Nat) (z1 : List Int) (C : List Value) (w : World) (he0 : Hid (len0 = 0)) (hc0 : Hid (cap0 = 0)) (h0 : len0 ≤ 1024) (h1 : len1 ≤ 1024) (hz : len1 ≤ z1.length) (hXl : X.length = len0)
    (hXc : Hid (∀ ad : Addr, none = some ad → ∀ j u, X[j]? = some u → w.cell? (ad.add j) = some u)) (hX1 : ∀ u ∈ X, ∃ z, u = .int .u8 z) (hC : Hid (C = X ++ q32 len1 ++ encI (z1.take len1))) (hCl : C.length = len0 + 4 + 4 * len1) (hCi : Hid (∀ u ∈ C, ∃ z, u = .int .u8 z)) (hN : Hid (Nums .i64 w a1 len1 z1)) :
    Calls Yba.prog 3 #[.slice (none) len0 cap0, .slice a1 len1 cap1] w fun e w' => e = .returned (.bool true) ∧ Below w.heap.size w w' := by
  obtain ⟨i5, hi5, hz50, hz51, hz52⟩ := info_parts Yba.info5
  have hXo : ∀ u ∈ X, u.oneCell' = true := fun u hu => by obtain ⟨z, rfl⟩ := hX1 u hu; rfl
  have HX1 : Hid (∀ u ∈ X, u.oneCell' = true) := hXo
  clear hXo hX1
  have t0 : decide ((1024 : Int) < (len0 : Int)) = false := decide_eq_false (by omega)
  have t1 : decide ((1024 : Int) < (len1 : Int)) = false := decide_eq_false (by omega)
  have hne : (binOp .neq 22 (.slice (none) len0 cap0) (.slice none 0 0)).run Yba.prog w = .ok (.bool false) w := run_neq_slice_nil_any w 22 5 (none) len0 cap0 0 0 Yba.underlying22
  go_enter Yba.func3, Yba.ntmps3
  have hbc : w.ownsRow w.heap.size 5 1 (.slice none 0 0) len0 X := by
    have hX0 : X = [] := List.eq_nil_of_length_eq_zero (by rw [hXl, he0.out])
    rw [he0.out, hX0]; exact World.ownsRow_nil w w.heap.size 5 1
  have hB2 := Below.refl w.heap.size w
  go_wp2_with (first | (go_at_call 4; refine (indexes_got _ len0 X a1 len1 cap1 z1 w _ C hC hbc h0 h1 hz hB2 hN.out).mono ?_; rintro e w3 ⟨g, gcap, rfl, hgot, hgl, hB3⟩) | (refine wpList_make_own _ rfl (.const (.int .i64 0)) (.tmp 35) 22 rfl w.heap.size 5 i5 (.int .u8 0) 1 Yba.underlying22 hi5 hz50 hz51 .i64 .i64 _ (len0 + 4 + 4 * len1) rfl rfl (by omega) (by rw [hz52]; omega) (by unfold maxLen; omega) hB3.size ?_))
  intro w4 hw4 hg4
  have hB4 : Below w.heap.size w w4 := hB3.grown hg4 hB3.size (by simp)
  go_wp2_with (at_builtin; refine wpList_append_fits_any _ rfl (.tmp 37) (.tmp 38) 22 rfl w.heap.size 5 i5 1 Yba.underlying22 hi5 hz51 w3.heap.size 0 (len0 + 4 + 4 * len1) [] rfl hw4 (none) len0 cap0 X rfl (by omega) (fun _ => ⟨he0.out, hc0.out⟩) (fun ad had j u hu => (World.cell?_of_block (hB4.block _ (World.block_lt_of_cell? w _ (hXc.out ad had j u hu)))).trans (hXc.out ad had j u hu)) HX1.out (by omega) ?_)
  intro w5 hw5 hg5
  have hB5 : Below w.heap.size w w5 := hB4.grown hg5 hB4.size (fun k hk => by injection hk with hk; have := hB3.size; omega)
  have hgot4 := hgot.kept hg4 (by simp [Value.ownBlock])
  have hgot5 := hgot4.kept hg5 (by simp [Value.ownBlock]; omega)
  go_wp2_with (go_at_call 5; refine (put_any w.heap.size _ len0 X _ _ hw5 (by omega) hB5.size (by omega) (by omega)).mono ?_; rintro e w6 ⟨gw, cap6, rfl, ho6, hg6, hat6, hlt6⟩)
  go_loopw [7, 8] (fun wv kv wr => IRel w5 w.heap.size (.slice (some ⟨w3.heap.size, 0, none⟩) len0 (len0 + 4 + 4 * len1)) len0 X len1 z1 wv kv wr) (fun _ kv _ => len1 - (intOf kv).toNat)
  case atStart => exact irel_start ho6 hg6 hat6 hlt6
  case round =>
    obtain ⟨k, g2, cap2, cs, hk, rfl, rfl, ho2, hcs, hg2, hat2, hlt2⟩ := hrel
    have hBr : Below w.heap.size w wr := hB5.grown hg2 hB5.size (fun k hk => by have := hB3.size; simp [Value.ownBlock] at hk; omega)
    by_cases hlt' : k < len1
    · obtain ⟨x, hx, hc⟩ := (hN.out.later hBr) k hlt'
      subst hx
      obtain ⟨z, hzz⟩ : ∃ z, z = z1.getD k 0 := ⟨_, rfl⟩
      rw [← hzz] at hc
      have HZ : Hid (z = z1.getD k 0) := hzz
      clear hzz
      go_wp2_with (go_at_call 5; refine (put_any w.heap.size _ (len0 + 4 + 4 * k) cs _ _ ho2 (by omega) hBr.size (by omega) (by omega)).mono ?_; rintro e w7 ⟨g3, cap3, rfl, ho3, hg3, hat3, hlt3⟩)
      go_roundw
      case rel =>
        have hstep := irel_step (base := w.heap.size) (cap' := cap3) hlt' hz hcs hg2 hat2 (by rw [← HZ.out]; exact ho3) hg3 hat3 hlt3
        exact hstep
      case measure => simp [intOf]; omega
    · obtain rfl : k = len1 := by omega
      have hwant : wr.ownsRow w.heap.size 5 1 (.slice (some ⟨g2, 0, none⟩) (len0 + 4 + 4 * k) cap2) (len0 + 4 + 4 * k) C := by rw [hC.out, ← hcs.out]; exact ho2
      have hgotr := hgot5.kept hg2 (by simp [Value.ownBlock]; omega)
      obtain ⟨wo, rfl⟩ : ∃ x : World, x = wr := ⟨_, rfl⟩
      go_wp2
      go_loopw [9] (fun iv wr => CRel w wo (len0 + 4 + 4 * k) iv wr) (fun iv _ => len0 + 4 + 4 * k - (intOf iv).toNat)
      case atStart => exact ⟨0, by omega, rfl, rfl, hBr⟩
      case round =>
        obtain ⟨j, hj, rfl, hh, hBj⟩ := hrel
        by_cases hlj : j < len0 + 4 + 4 * k
        · obtain ⟨z, hzc⟩ := hCi.out _ (List.getElem_mem (by omega : j < C.length))
          have c1 : wr.cell? ⟨g, j, none⟩ = some (.int .u8 z) := by rw [cell_heap hh, hgotr.cellAt j (by omega), List.getElem?_eq_getElem (by omega), hzc]
          have c2 : wr.cell? ⟨g2, j, none⟩ = some (.int .u8 z) := by rw [cell_heap hh, hwant.cellAt j (by omega), List.getElem?_eq_getElem (by omega), hzc]
          clear hzc
          have hlj' : (j : Int) < (len0 : Int) + 4 + 4 * (k : Int) := by omega
          go_wp2_with fail
          go_quiet (fail)
          go_wp2_with fail
          go_roundw
          case rel => exact ⟨j + 1, by omega, by go_num, hh, below_drewN hBj _⟩
          case measure => simp [intOf]; omega
        · go_wp2
          go_ret
          exact ⟨rfl, hBj⟩

end Go.Proofs.Ybulkaxks
