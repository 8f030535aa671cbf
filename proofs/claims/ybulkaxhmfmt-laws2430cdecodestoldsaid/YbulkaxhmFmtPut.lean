/-
  Bytes that the call itself owns; the contract of zzs2430bput.
-/
import Derived.Test.YbulkaxhmFmtBasic
import Derived.Test.YbulkaxhmFmtPlainB
import Derived.Deep.AppendLies
set_option linter.unusedVariables false
set_option linter.unusedSimpArgs false
namespace Go.Proofs
open Go.RowKit

theorem Ybaf.info5 : (Ybaf.prog.info? 5).map (fun i => (i.zero, i.size, i.bytes)) = some (some (.int .u8 0), 1, 1) := by kernel_rfl

namespace YbulkaxhmFmt

def bv (c : UInt8) : Value := .int .u8 (c.toNat : Int)
def bvs (l : List UInt8) : List Value := l.map bv
theorem bvs_length (l : List UInt8) : (bvs l).length = l.length := by simp [bvs]
theorem bvs_append (l k : List UInt8) : bvs (l ++ k) = bvs l ++ bvs k := by simp [bvs]
theorem bvs_oneCell (l : List UInt8) : ∀ u ∈ bvs l, u.oneCell' = true := by
  intro u hu
  simp only [bvs, List.mem_map] at hu
  obtain ⟨c, _, rfl⟩ := hu
  rfl

def Bytes (w : World) (base : Nat) (v : Value) (l : List UInt8) : Prop := w.ownsRow base 5 1 v l.length (bvs l)

theorem grown_alloc {w w1 : World} {o : Obj} {row : Option Nat} (h : (w.alloc o).grownBy w1 row) : w.grownBy w1 row := by
  refine ⟨h.os, h.tape, h.output, ?_, fun k hk hr => ?_⟩
  · have := h.size; simp at this; omega
  · exact (h.block k (by simp; omega) hr).trans (Below.heap_alloc w o k hk)

theorem Bytes.nil (w : World) (base : Nat) : Bytes w base (.slice none 0 0) [] := World.ownsRow_nil w base 5 1

/-- What an append of the bytes 'k' onto 'v', whose bytes are 'l', leaves. -/
def Appended (w : World) (base : Nat) (v : Value) (l k : List UInt8) (e : Ending) (w' : World) : Prop :=
  ∃ g cap, e = .returned (.slice (some ⟨g, 0, none⟩) (l.length + k.length) cap) ∧ Bytes w' base (.slice (some ⟨g, 0, none⟩) (l.length + k.length) cap) (l ++ k) ∧
    w.grownBy w' v.ownBlock ∧ (v.ownBlock = some g ∨ w.heap.size ≤ g) ∧ g < w'.heap.size

theorem toNat_d1 (c : UInt8) : (((48 + c / 100 : UInt8).toNat : Nat) : Int) = 48 + (c.toNat : Int) / 100 := by
  have := c.toNat_lt
  simp [UInt8.toNat_add, UInt8.toNat_div]; omega
theorem toNat_d2 (c : UInt8) : (((48 + (c / 10) % 10 : UInt8).toNat : Nat) : Int) = 48 + (c.toNat : Int) / 10 % 10 := by
  have := c.toNat_lt
  simp [UInt8.toNat_add, UInt8.toNat_div, UInt8.toNat_mod]; omega
theorem toNat_d3 (c : UInt8) : (((48 + c % 10 : UInt8).toNat : Nat) : Int) = 48 + (c.toNat : Int) % 10 := by
  have := c.toNat_lt
  simp [UInt8.toNat_add, UInt8.toNat_mod]; omega

/-- The cells of a block that was just laid. -/
theorem news_alloc (w : World) (cs : List Value) (t : TypeId) : ∀ j u, cs[j]? = some u → (w.alloc (.cells cs.toArray t)).cell? ((⟨w.heap.size, 0, none⟩ : Addr).add j) = some u :=
  World.news_of_block (cs := cs.toArray) (heap_alloc_new w _)

theorem appended_mk {w w1 : World} {o : Obj} {base : Nat} {v : Value} {l k : List UInt8} {g cap n : Nat} {ks : List Value}
    (hk : bvs k = ks) (hn : k.length = n) (hown : w1.ownsRow base 5 1 (.slice (some ⟨g, 0, none⟩) (l.length + n) cap) (l.length + n) (bvs l ++ ks))
    (hg : (w.alloc o).grownBy w1 v.ownBlock) (hat : v.ownBlock = some g ∨ g = w.heap.size + 1) (hlt : g < w1.heap.size) :
    Appended w base v l k (.returned (.slice (some ⟨g, 0, none⟩) (l.length + n) cap)) w1 := by
  subst hn; subst hk
  refine ⟨g, cap, rfl, ?_, grown_alloc hg, ?_, hlt⟩
  · unfold Bytes
    rw [bvs_append, List.length_append]
    exact hown
  · rcases hat with h | h
    · exact .inl h
    · exact .inr (by omega)

theorem ints_one (l : List Int) : ∀ u ∈ l.map (Value.int .u8), u.oneCell' = true := by
  intro u hu
  simp only [List.mem_map] at hu
  obtain ⟨c, _, rfl⟩ := hu
  rfl

set_option maxHeartbeats 400000 in
theorem put_plain (base : Nat) (v : Value) (l : List UInt8) (c : UInt8) (x : Int) (hx : Hid (x = c.toNat)) (m : Int) (w : World) (hm0 : 0 ≤ m) (hm1 : m ≤ 255) (hown : Bytes w base v l) (hlen : l.length ≤ 1000000) (hbase : base ≤ w.heap.size)
    (hm3 : (m % 3 == 0) = true) (hc1 : (x != 46) = true) (hc2 : (x != 92) = true) (h0 : 0 ≤ x) (h1 : x ≤ 255) :
    Calls Ybaf.prog 8 #[v, .int .u8 x, .int .u8 m] w (Appended w base v l [c]) := by
  obtain ⟨i0, hi, hz0, hz1, hz2⟩ := info_parts Ybaf.info5
  have hn := news_alloc w [.int .u8 x] 5
  have hs : base ≤ w.heap.size + 1 := by omega
  go_enter Ybaf.func8, Ybaf.ntmps8
  go_wp2_with (at_builtin; refine wpList_append_lies _ rfl _ _ 23 rfl base 5 i0 (.int .u8 0) 1 1 Ybaf.underlying23 hi hz0 hz1 hz2 rfl (by decide) v l.length (bvs l) rfl (hown.alloc _) ⟨w.heap.size, 0, none⟩ 1 1 [.int .u8 x] rfl rfl hn (ints_one [x]) (by decide) (by unfold maxLen; omega) (by omega) (by simp; omega) (w.heap.size + 1) (by simp) ?_)
  intro g cap w1 ho hg hat hlt
  go_wp2
  go_ret
  exact appended_mk (by simp [bvs, bv, hx.out]) rfl ho hg hat hlt

set_option maxHeartbeats 400000 in
theorem put_dot (base : Nat) (v : Value) (l : List UInt8) (c : UInt8) (x : Int) (hx : Hid (x = c.toNat)) (m : Int) (w : World) (hm0 : 0 ≤ m) (hm1 : m ≤ 255) (hown : Bytes w base v l) (hlen : l.length ≤ 1000000) (hbase : base ≤ w.heap.size)
    (hm3 : (m % 3 == 0) = true) (hc1 : (x != 46) = false) (h0 : 0 ≤ x) (h1 : x ≤ 255) :
    Calls Ybaf.prog 8 #[v, .int .u8 x, .int .u8 m] w (Appended w base v l [92, c]) := by
  obtain ⟨i0, hi, hz0, hz1, hz2⟩ := info_parts Ybaf.info5
  have hn := news_alloc w [.int .u8 92, .int .u8 x] 5
  have hs : base ≤ w.heap.size + 1 := by omega
  go_enter Ybaf.func8, Ybaf.ntmps8
  go_wp2_with (at_builtin; refine wpList_append_lies _ rfl _ _ 23 rfl base 5 i0 (.int .u8 0) 1 1 Ybaf.underlying23 hi hz0 hz1 hz2 rfl (by decide) v l.length (bvs l) rfl (hown.alloc _) ⟨w.heap.size, 0, none⟩ 2 2 [.int .u8 92, .int .u8 x] rfl rfl hn (ints_one [92, x]) (by decide) (by unfold maxLen; omega) (by omega) (by simp; omega) (w.heap.size + 1) (by simp) ?_)
  intro g cap w1 ho hg hat hlt
  go_wp2
  go_ret
  exact appended_mk (by simp [bvs, bv, hx.out]) rfl ho hg hat hlt

set_option maxHeartbeats 400000 in
theorem put_bs (base : Nat) (v : Value) (l : List UInt8) (c : UInt8) (x : Int) (hx : Hid (x = c.toNat)) (m : Int) (w : World) (hm0 : 0 ≤ m) (hm1 : m ≤ 255) (hown : Bytes w base v l) (hlen : l.length ≤ 1000000) (hbase : base ≤ w.heap.size)
    (hm3 : (m % 3 == 0) = true) (hc1 : (x != 46) = true) (hc2 : (x != 92) = false) (h0 : 0 ≤ x) (h1 : x ≤ 255) :
    Calls Ybaf.prog 8 #[v, .int .u8 x, .int .u8 m] w (Appended w base v l [92, c]) := by
  obtain ⟨i0, hi, hz0, hz1, hz2⟩ := info_parts Ybaf.info5
  have hn := news_alloc w [.int .u8 92, .int .u8 x] 5
  have hs : base ≤ w.heap.size + 1 := by omega
  go_enter Ybaf.func8, Ybaf.ntmps8
  go_wp2_with (at_builtin; refine wpList_append_lies _ rfl _ _ 23 rfl base 5 i0 (.int .u8 0) 1 1 Ybaf.underlying23 hi hz0 hz1 hz2 rfl (by decide) v l.length (bvs l) rfl (hown.alloc _) ⟨w.heap.size, 0, none⟩ 2 2 [.int .u8 92, .int .u8 x] rfl rfl hn (ints_one [92, x]) (by decide) (by unfold maxLen; omega) (by omega) (by simp; omega) (w.heap.size + 1) (by simp) ?_)
  intro g cap w1 ho hg hat hlt
  go_wp2
  go_ret
  exact appended_mk (by simp [bvs, bv, hx.out]) rfl ho hg hat hlt

set_option maxHeartbeats 400000 in
theorem put_lo (base : Nat) (v : Value) (l : List UInt8) (c : UInt8) (x : Int) (hx : Hid (x = c.toNat)) (m : Int) (w : World) (hm0 : 0 ≤ m) (hm1 : m ≤ 255) (hown : Bytes w base v l) (hlen : l.length ≤ 1000000) (hbase : base ≤ w.heap.size)
    (hm3 : (m % 3 == 0) = false) (hm4 : (m % 3 == 1) = true) (hc1 : x < 48) (h0 : 0 ≤ x) (h1 : x ≤ 255) :
    Calls Ybaf.prog 8 #[v, .int .u8 x, .int .u8 m] w (Appended w base v l [92, c]) := by
  obtain ⟨i0, hi, hz0, hz1, hz2⟩ := info_parts Ybaf.info5
  have hn := news_alloc w [.int .u8 92, .int .u8 x] 5
  have hs : base ≤ w.heap.size + 1 := by omega
  go_enter Ybaf.func8, Ybaf.ntmps8
  go_wp2_with (at_builtin; refine wpList_append_lies _ rfl _ _ 23 rfl base 5 i0 (.int .u8 0) 1 1 Ybaf.underlying23 hi hz0 hz1 hz2 rfl (by decide) v l.length (bvs l) rfl (hown.alloc _) ⟨w.heap.size, 0, none⟩ 2 2 [.int .u8 92, .int .u8 x] rfl rfl hn (ints_one [92, x]) (by decide) (by unfold maxLen; omega) (by omega) (by simp; omega) (w.heap.size + 1) (by simp) ?_)
  intro g cap w1 ho hg hat hlt
  go_wp2
  go_ret
  exact appended_mk (by simp [bvs, bv, hx.out]) rfl ho hg hat hlt

set_option maxHeartbeats 400000 in
theorem put_hi (base : Nat) (v : Value) (l : List UInt8) (c : UInt8) (x : Int) (hx : Hid (x = c.toNat)) (m : Int) (w : World) (hm0 : 0 ≤ m) (hm1 : m ≤ 255) (hown : Bytes w base v l) (hlen : l.length ≤ 1000000) (hbase : base ≤ w.heap.size)
    (hm3 : (m % 3 == 0) = false) (hm4 : (m % 3 == 1) = true) (hc1 : 57 < x) (h0 : 0 ≤ x) (h1 : x ≤ 255) :
    Calls Ybaf.prog 8 #[v, .int .u8 x, .int .u8 m] w (Appended w base v l [92, c]) := by
  obtain ⟨i0, hi, hz0, hz1, hz2⟩ := info_parts Ybaf.info5
  have hn := news_alloc w [.int .u8 92, .int .u8 x] 5
  have hs : base ≤ w.heap.size + 1 := by omega
  go_enter Ybaf.func8, Ybaf.ntmps8
  go_wp2_with (at_builtin; refine wpList_append_lies _ rfl _ _ 23 rfl base 5 i0 (.int .u8 0) 1 1 Ybaf.underlying23 hi hz0 hz1 hz2 rfl (by decide) v l.length (bvs l) rfl (hown.alloc _) ⟨w.heap.size, 0, none⟩ 2 2 [.int .u8 92, .int .u8 x] rfl rfl hn (ints_one [92, x]) (by decide) (by unfold maxLen; omega) (by omega) (by simp; omega) (w.heap.size + 1) (by simp) ?_)
  intro g cap w1 ho hg hat hlt
  go_wp2
  go_ret
  exact appended_mk (by simp [bvs, bv, hx.out]) rfl ho hg hat hlt

set_option maxHeartbeats 400000 in
theorem put_dig (base : Nat) (v : Value) (l : List UInt8) (c : UInt8) (x : Int) (hx : Hid (x = c.toNat)) (m : Int) (w : World) (hm0 : 0 ≤ m) (hm1 : m ≤ 255) (hown : Bytes w base v l) (hlen : l.length ≤ 1000000) (hbase : base ≤ w.heap.size)
    (hm3 : (m % 3 == 0) = false) (hm4 : (m % 3 == 1) = true) (hc1 : 48 ≤ x) (hc2 : x ≤ 57) (h0 : 0 ≤ x) (h1 : x ≤ 255) :
    Calls Ybaf.prog 8 #[v, .int .u8 x, .int .u8 m] w (Appended w base v l [92, 48 + c / 100, 48 + (c / 10) % 10, 48 + c % 10]) := by
  obtain ⟨i0, hi, hz0, hz1, hz2⟩ := info_parts Ybaf.info5
  have hn := news_alloc w [.int .u8 92, .int .u8 (48 + x / 100), .int .u8 (48 + x / 10 % 10), .int .u8 (48 + x % 10)] 5
  have hs : base ≤ w.heap.size + 1 := by omega
  go_enter Ybaf.func8, Ybaf.ntmps8
  go_wp2_with (at_builtin; refine wpList_append_lies _ rfl _ _ 23 rfl base 5 i0 (.int .u8 0) 1 1 Ybaf.underlying23 hi hz0 hz1 hz2 rfl (by decide) v l.length (bvs l) rfl (hown.alloc _) ⟨w.heap.size, 0, none⟩ 4 4 [.int .u8 92, .int .u8 (48 + x / 100), .int .u8 (48 + x / 10 % 10), .int .u8 (48 + x % 10)] rfl rfl hn (ints_one [92, 48 + x / 100, 48 + x / 10 % 10, 48 + x % 10]) (by decide) (by unfold maxLen; omega) (by omega) (by simp; omega) (w.heap.size + 1) (by simp) ?_)
  intro g cap w1 ho hg hat hlt
  go_wp2
  go_ret
  exact appended_mk (by simp only [bvs, bv, List.map_cons, List.map_nil, toNat_d1, toNat_d2, toNat_d3, hx.out]; rfl) rfl ho hg hat hlt

set_option maxHeartbeats 400000 in
theorem put_ddd (base : Nat) (v : Value) (l : List UInt8) (c : UInt8) (x : Int) (hx : Hid (x = c.toNat)) (m : Int) (w : World) (hm0 : 0 ≤ m) (hm1 : m ≤ 255) (hown : Bytes w base v l) (hlen : l.length ≤ 1000000) (hbase : base ≤ w.heap.size)
    (hm3 : (m % 3 == 0) = false) (hm4 : (m % 3 == 1) = false) (h0 : 0 ≤ x) (h1 : x ≤ 255) :
    Calls Ybaf.prog 8 #[v, .int .u8 x, .int .u8 m] w (Appended w base v l [92, 48 + c / 100, 48 + (c / 10) % 10, 48 + c % 10]) := by
  obtain ⟨i0, hi, hz0, hz1, hz2⟩ := info_parts Ybaf.info5
  have hn := news_alloc w [.int .u8 92, .int .u8 (48 + x / 100), .int .u8 (48 + x / 10 % 10), .int .u8 (48 + x % 10)] 5
  have hs : base ≤ w.heap.size + 1 := by omega
  go_enter Ybaf.func8, Ybaf.ntmps8
  go_wp2_with (at_builtin; refine wpList_append_lies _ rfl _ _ 23 rfl base 5 i0 (.int .u8 0) 1 1 Ybaf.underlying23 hi hz0 hz1 hz2 rfl (by decide) v l.length (bvs l) rfl (hown.alloc _) ⟨w.heap.size, 0, none⟩ 4 4 [.int .u8 92, .int .u8 (48 + x / 100), .int .u8 (48 + x / 10 % 10), .int .u8 (48 + x % 10)] rfl rfl hn (ints_one [92, 48 + x / 100, 48 + x / 10 % 10, 48 + x % 10]) (by decide) (by unfold maxLen; omega) (by omega) (by simp; omega) (w.heap.size + 1) (by simp) ?_)
  intro g cap w1 ho hg hat hlt
  go_wp2
  go_ret
  exact appended_mk (by simp only [bvs, bv, List.map_cons, List.map_nil, toNat_d1, toNat_d2, toNat_d3, hx.out]; rfl) rfl ho hg hat hlt


theorem put_any (base : Nat) (v : Value) (l : List UInt8) (c : UInt8) (x : Int) (hx : Hid (x = c.toNat)) (m : Int) (w : World) (hm0 : 0 ≤ m) (hm1 : m ≤ 255) (hown : Bytes w base v l) (hlen : l.length ≤ 1000000) (hbase : base ≤ w.heap.size) :
    Calls Ybaf.prog 8 #[v, .int .u8 x, .int .u8 m] w (Appended w base v l (put c m.toNat)) := by
  have hcl := c.toNat_lt
  have h0 : 0 ≤ x := by rw [hx.out]; omega
  have h1 : x ≤ 255 := by rw [hx.out]; omega
  have h46 : c = 46 ↔ x = 46 := by
    rw [hx.out, ← UInt8.toNat_inj]; simp; omega
  have h92 : c = 92 ↔ x = 92 := by
    rw [hx.out, ← UInt8.toNat_inj]; simp; omega
  by_cases a0 : m % 3 = 0
  · have e0 : m.toNat % 3 = 0 := by omega
    by_cases a1 : x = 46
    · have e : put c m.toNat = [92, c] := by unfold put; rw [if_pos e0, if_pos (.inl (h46.2 a1))]
      rw [e]
      exact put_dot base v l c x hx m w hm0 hm1 hown hlen hbase (by simp [a0]) (by simp [a1]) h0 h1
    · by_cases a2 : x = 92
      · have e : put c m.toNat = [92, c] := by unfold put; rw [if_pos e0, if_pos (.inr (h92.2 a2))]
        rw [e]
        exact put_bs base v l c x hx m w hm0 hm1 hown hlen hbase (by simp [a0]) (by simp [a1]) (by simp [a2]) h0 h1
      · have e : put c m.toNat = [c] := by
          unfold put
          rw [if_pos e0, if_neg (by intro hh; rcases hh with hh | hh; exact a1 (h46.1 hh); exact a2 (h92.1 hh))]
        rw [e]
        exact put_plain base v l c x hx m w hm0 hm1 hown hlen hbase (by simp [a0]) (by simp [a1]) (by simp [a2]) h0 h1
  · have e0 : ¬ m.toNat % 3 = 0 := by omega
    by_cases a3 : m % 3 = 1
    · have e1 : m.toNat % 3 = 1 := by omega
      by_cases a1 : x < 48
      · have e : put c m.toNat = [92, c] := by unfold put; rw [if_neg e0, if_pos ⟨e1, .inl (by have := hx.out; omega)⟩]
        rw [e]
        exact put_lo base v l c x hx m w hm0 hm1 hown hlen hbase (by simp [a0]) (by simp [a3]) a1 h0 h1
      · by_cases a2 : 57 < x
        · have e : put c m.toNat = [92, c] := by unfold put; rw [if_neg e0, if_pos ⟨e1, .inr (by have := hx.out; omega)⟩]
          rw [e]
          exact put_hi base v l c x hx m w hm0 hm1 hown hlen hbase (by simp [a0]) (by simp [a3]) a2 h0 h1
        · have e : put c m.toNat = [92, 48 + c / 100, 48 + (c / 10) % 10, 48 + c % 10] := by
            unfold put; rw [if_neg e0, if_neg (by have := hx.out; omega)]
          rw [e]
          exact put_dig base v l c x hx m w hm0 hm1 hown hlen hbase (by simp [a0]) (by simp [a3]) (by omega) (by omega) h0 h1
    · have e : put c m.toNat = [92, 48 + c / 100, 48 + (c / 10) % 10, 48 + c % 10] := by
        unfold put; rw [if_neg e0, if_neg (by omega)]
      rw [e]
      exact put_ddd base v l c x hx m w hm0 hm1 hown hlen hbase (by simp [a0]) (by simp [a3]) h0 h1

end YbulkaxhmFmt
end Go.Proofs
