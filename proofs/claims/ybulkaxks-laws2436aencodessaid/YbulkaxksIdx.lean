/-
  The contract of appendIndexes.
-/
import Derived.Test.YbulkaxksPut
set_option linter.unusedVariables false
set_option linter.unusedSimpArgs false
namespace Go.Proofs.Ybulkaxks
open Go.RowKit

/-- The bytes of the indexes. -/
def encI (zs : List Int) : List Value := zs.flatMap fun z => q32 (z % 4294967296)
theorem encI_snoc (zs : List Int) (z : Int) : encI (zs ++ [z]) = encI zs ++ q32 (z % 4294967296) := by simp [encI]

/-- The first 'n' numbers of a slice that came in. -/
def Nums (k : IntKind) (w : World) (ao : Option Addr) (n : Nat) (zs : List Int) : Prop := ∀ i, i < n → ∃ x, ao = some x ∧ w.cell? (x.add i) = some (.int k (zs.getD i 0))

theorem Nums.later {k : IntKind} {w w' : World} {ao : Option Addr} {n : Nat} {zs : List Int} (h : Nums k w ao n zs) (hb : Below w.heap.size w w') : Nums k w' ao n zs := fun i hi => by
  obtain ⟨x, hx, hc⟩ := h i hi
  exact ⟨x, hx, (World.cell?_of_block (hb.block _ (World.block_lt_of_cell? w _ hc))).trans hc⟩

/-- What stands after 'k' indexes. -/
def IRel (w : World) (base : Nat) (v : Value) (n : Nat) (xs : List Value) (len : Nat) (zs : List Int) (bv iv : Value) (wr : World) : Prop :=
  ∃ (k g cap : Nat) (cs : List Value), k ≤ len ∧ iv = .int .i64 k ∧ bv = .slice (some ⟨g, 0, none⟩) (n + 4 + 4 * k) cap ∧ wr.ownsRow base 5 1 bv (n + 4 + 4 * k) cs ∧
    Hid (cs = xs ++ q32 len ++ encI (zs.take k)) ∧ w.grownBy wr v.ownBlock ∧ (v.ownBlock = some g ∨ w.heap.size ≤ g) ∧ g < wr.heap.size

theorem grown_trans {a b c : World} {r1 r2 : Option Nat} (h1 : a.grownBy b r1) (h2 : b.grownBy c r2) (hr : r2 = r1 ∨ ∃ k, r2 = some k ∧ a.heap.size ≤ k) : a.grownBy c r1 := by
  refine ⟨h2.os.trans h1.os, h2.tape.trans h1.tape, h2.output.trans h1.output, Nat.le_trans h1.size h2.size, fun k hk hne => ?_⟩
  have : some k ≠ r2 := by
    rcases hr with hr | ⟨q, hr, hq⟩
    · rw [hr]; exact hne
    · rw [hr]; intro e; injection e with e; omega
  exact (h2.block k (Nat.lt_of_lt_of_le hk h1.size) this).trans (h1.block k hk hne)

theorem irel_start {w w1 : World} {base : Nat} {v : Value} {n g cap : Nat} {xs : List Value} {len : Nat} {zs : List Int} (ho : w1.ownsRow base 5 1 (.slice (some ⟨g, 0, none⟩) (n + 4) cap) (n + 4) (xs ++ q32 len))
    (hg : w.grownBy w1 v.ownBlock) (hat : v.ownBlock = some g ∨ w.heap.size ≤ g) (hlt : g < w1.heap.size) : IRel w base v n xs len zs (.slice (some ⟨g, 0, none⟩) (n + 4) cap) (.int .i64 0) w1 :=
  ⟨0, g, cap, _, Nat.zero_le _, rfl, rfl, ho, by show _ = _; simp [encI], hg, hat, hlt⟩

theorem irel_step {w wr w1 : World} {base : Nat} {v : Value} {n k g g' cap' : Nat} {xs cs : List Value} {len : Nat} {zs : List Int} (hk : k < len) (hz : len ≤ zs.length)
    (hcs : Hid (cs = xs ++ q32 len ++ encI (zs.take k))) (hg : w.grownBy wr v.ownBlock) (hat : v.ownBlock = some g ∨ w.heap.size ≤ g)
    (ho : w1.ownsRow base 5 1 (.slice (some ⟨g', 0, none⟩) (n + 4 + 4 * k + 4) cap') (n + 4 + 4 * k + 4) (cs ++ q32 (zs.getD k 0 % 4294967296))) (hg' : wr.grownBy w1 (some g)) (hat' : some g = some g' ∨ wr.heap.size ≤ g') (hlt : g' < w1.heap.size) :
    IRel w base v n xs len zs (.slice (some ⟨g', 0, none⟩) (n + 4 + 4 * k + 4) cap') (.int .i64 (k + 1 : Nat)) w1 := by
  refine ⟨k + 1, g', cap', _, by omega, rfl, by rw [show n + 4 + 4 * k + 4 = n + 4 + 4 * (k + 1) by omega], by rw [show n + 4 + 4 * (k + 1) = n + 4 + 4 * k + 4 by omega]; exact ho, ?_, grown_trans hg hg' ?_, ?_, hlt⟩
  · show _ = _
    rw [hcs.out, List.take_succ_eq_append_getElem (by omega), encI_snoc, List.append_assoc (xs ++ q32 len)]
    rw [List.getD_eq_getElem?_getD, List.getElem?_eq_getElem (by omega)]; rfl
  · rcases hat with h | h
    · exact .inl h.symm
    · exact .inr ⟨g, rfl, h⟩
  · rcases hat' with h | h
    · injection h with h; subst h; exact hat
    · have := hg.size; exact .inr (by omega)

set_option maxHeartbeats 400000 in
theorem indexes_any (base : Nat) (v : Value) (n : Nat) (xs : List Value) (ai : Option Addr) (len icap : Nat) (zs : List Int) (w : World) (hown : w.ownsRow base 5 1 v n xs) (hn : n ≤ 1024) (hbase : base ≤ w.heap.size)
    (hl : len ≤ 1024) (hz : len ≤ zs.length) (hi : Hid (∀ w', w.grownBy w' v.ownBlock → Nums .i64 w' ai len zs)) :
    Calls Yba.prog 4 #[v, .slice ai len icap] w fun e w' => ∃ bv iv, e = .returned bv ∧ iv = .int .i64 len ∧ IRel w base v n xs len zs bv iv w' := by
  have e1 : (len : Int) % 4294967296 = len := by omega
  go_enter Yba.func4, Yba.ntmps4
  go_wp2_with (go_at_call 6; refine (append_any base v n xs _ _ hown (by omega) hbase (by omega) (by omega)).mono ?_; rintro e w' ⟨g, cap, rfl, ho, hg, hat, hlt⟩)
  go_loopw [0, 15] (fun bv iv wr => IRel w base v n xs len zs bv iv wr) (fun _ iv _ => len - (intOf iv).toNat)
  case atStart => exact irel_start ho hg hat hlt
  case round =>
    obtain ⟨k, g2, cap2, cs, hk, rfl, rfl, ho2, hcs, hg2, hat2, hlt2⟩ := hrel
    by_cases hlt' : k < len
    · obtain ⟨x, hx, hc⟩ := hi.out _ hg2 k hlt'
      subst hx
      obtain ⟨z, hzz⟩ : ∃ z, z = zs.getD k 0 := ⟨_, rfl⟩
      rw [← hzz] at hc
      have HZ : Hid (z = zs.getD k 0) := hzz
      clear hzz
      have hb2 := hg2.size
      go_wp2_with (go_at_call 6; refine (append_any base _ (n + 4 + 4 * k) cs _ _ ho2 (by omega) (by omega) (by omega) (by omega)).mono ?_; rintro e w' ⟨g3, cap3, rfl, ho3, hg3, hat3, hlt3⟩)
      go_roundw
      case rel =>
        have hstep := irel_step (base := base) (cap' := cap3) hlt' hz hcs hg2 hat2 (by rw [← HZ.out]; exact ho3) hg3 hat3 hlt3
        exact hstep
      case measure => simp [intOf]; omega
    · obtain rfl : k = len := by omega
      go_wp2
      go_ret
      exact ⟨_, _, rfl, rfl, k, g2, cap2, cs, hk, rfl, rfl, ho2, hcs, hg2, hat2, hlt2⟩

end Go.Proofs.Ybulkaxks
