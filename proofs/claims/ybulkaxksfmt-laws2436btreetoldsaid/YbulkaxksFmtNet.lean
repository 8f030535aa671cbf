/-
  The network as it lies in memory; its small methods.
-/
import Derived.Test.YbulkaxksFmtKit
set_option linter.unusedVariables false
set_option linter.unusedSimpArgs false
namespace Go.Proofs
open Go.RowKit
theorem Ybaf.kinfo3 : (Ybaf.prog.info? 3).map (fun i => (i.zero, i.size, i.bytes)) = some (some (.int .i64 0), 1, 8) := by kernel_rfl
theorem Ybaf.kinfo27 : (Ybaf.prog.info? 27).map (fun i => (i.zero, i.size, i.bytes)) = some (some (.slice none 0 0), 1, 24) := by kernel_rfl
theorem Ybaf.kinfo9 : (Ybaf.prog.info? 9).map (fun i => (i.zero, i.size, i.bytes)) = some (some (.string ⟨#[]⟩), 1, 16) := by kernel_rfl
theorem Ybaf.kinfo57 : (Ybaf.prog.info? 57).map (fun i => (i.zero, i.size, i.bytes)) = some (some (.agg #[.string ⟨#[]⟩, .string ⟨#[]⟩, .slice none 0 0]), 3, 56) := by kernel_rfl
theorem Ybaf.kinfo59 : (Ybaf.prog.info? 59).map (fun i => (i.zero, i.size, i.bytes)) = some (some (.agg #[.int .i64 0, .int .i64 0]), 2, 16) := by kernel_rfl
theorem Ybaf.kinfo21 : (Ybaf.prog.info? 21).map (fun i => (i.zero, i.size, i.bytes)) = some (some (.int .i32 0), 1, 4) := by kernel_rfl
theorem Ybaf.kinfo47 : (Ybaf.prog.info? 47).map (fun i => (i.zero, i.size, i.bytes)) = some (some (.slice none 0 0), 1, 24) := by kernel_rfl
namespace YbulkaxksFmt

def iv (n : Nat) : Value := .int .i64 (n : Int)
def ivs (l : List Nat) : List Value := l.map iv
theorem ivs_length (l : List Nat) : (ivs l).length = l.length := by simp [ivs]
theorem ivs_append (a b : List Nat) : ivs (a ++ b) = ivs a ++ ivs b := by simp [ivs]
theorem ivs_one (l : List Nat) : ∀ u ∈ ivs l, u.oneCell' = true := by
  intro u hu
  simp only [ivs, List.mem_map] at hu
  obtain ⟨c, _, rfl⟩ := hu
  rfl

/-- A list of numbers that lies behind a slice, in a block from 'lo' on. -/
def NatsAt (w : World) (lo : Nat) (a : Option Addr) (l : List Nat) : Prop := ∀ j (hj : j < l.length), ∃ b, a = some ⟨b, 0, none⟩ ∧ lo ≤ b ∧ w.cell? ⟨b, j, none⟩ = some (iv l[j])
theorem NatsAt.below {w w' : World} {lo : Nat} {a : Option Addr} {l : List Nat} (h : NatsAt w lo a l) (hb : Below w.heap.size w w') : NatsAt w' lo a l := fun j hj => by
  obtain ⟨b, h1, h0, h2⟩ := h j hj
  exact ⟨b, h1, h0, Below.cellK hb h2⟩
theorem NatsAt.lower {w : World} {lo lo' : Nat} {a : Option Addr} {l : List Nat} (h : NatsAt w lo a l) (hl : lo' ≤ lo) : NatsAt w lo' a l := fun j hj => by
  obtain ⟨b, h1, h0, h2⟩ := h j hj
  exact ⟨b, h1, by omega, h2⟩

/-- A list of lists. -/
def NatssAt (w : World) (lo : Nat) (a : Option Addr) (ls : List (List Nat)) : Prop := ∀ j (hj : j < ls.length), ∃ b ao cap, a = some ⟨b, 0, none⟩ ∧ lo ≤ b ∧ w.cell? ⟨b, j, none⟩ = some (.slice ao ls[j].length cap) ∧ ls[j].length ≤ cap ∧ cap ≤ maxLen ∧ (ao = none → cap = 0) ∧ NatsAt w lo ao ls[j]
theorem NatssAt.below {w w' : World} {lo : Nat} {a : Option Addr} {l : List (List Nat)} (h : NatssAt w lo a l) (hb : Below w.heap.size w w') : NatssAt w' lo a l := fun j hj => by
  obtain ⟨b, ao, cap, h1, h0, h2, h3, h4, h5, h6⟩ := h j hj
  exact ⟨b, ao, cap, h1, h0, Below.cellK hb h2, h3, h4, h5, h6.below hb⟩
theorem NatssAt.lower {w : World} {lo lo' : Nat} {a : Option Addr} {l : List (List Nat)} (h : NatssAt w lo a l) (hl : lo' ≤ lo) : NatssAt w lo' a l := fun j hj => by
  obtain ⟨b, ao, cap, h1, h0, h2, h3, h4, h5, h6⟩ := h j hj
  exact ⟨b, ao, cap, h1, by omega, h2, h3, h4, h5, h6.lower hl⟩

/-- The same, and no step on the rows of L writes there. -/
def NatsS (w : World) (L : List RowS) (a : Option Addr) (l : List Nat) : Prop := ∀ j (hj : j < l.length), ∃ b, a = some ⟨b, 0, none⟩ ∧ w.cell? ⟨b, j, none⟩ = some (iv l[j]) ∧ Safe L ⟨b, j, none⟩
def NatssS (w : World) (L : List RowS) (a : Option Addr) (ls : List (List Nat)) : Prop := ∀ j (hj : j < ls.length), ∃ b ao cap, a = some ⟨b, 0, none⟩ ∧ w.cell? ⟨b, j, none⟩ = some (.slice ao ls[j].length cap) ∧ Safe L ⟨b, j, none⟩ ∧ ls[j].length ≤ cap ∧ cap ≤ maxLen ∧ (ao = none → cap = 0) ∧ NatsS w L ao ls[j]
theorem NatsS.goes {B : Nat} {w w' : World} {L L' : List RowS} {a : Option Addr} {l : List Nat} (h : NatsS w L a l) (hg : Goes B w L w' L') : NatsS w' L' a l := fun j hj => by
  obtain ⟨b, h1, h2, h3⟩ := h j hj
  obtain ⟨x, y⟩ := hg.safe _ _ h2 h3
  exact ⟨b, h1, x, y⟩
theorem NatssS.goes {B : Nat} {w w' : World} {L L' : List RowS} {a : Option Addr} {l : List (List Nat)} (h : NatssS w L a l) (hg : Goes B w L w' L') : NatssS w' L' a l := fun j hj => by
  obtain ⟨b, ao, cap, h1, h2, h0, h3, h4, h5, h6⟩ := h j hj
  obtain ⟨x, y⟩ := hg.safe _ _ h2 h0
  exact ⟨b, ao, cap, h1, x, y, h3, h4, h5, h6.goes hg⟩
theorem safe_lo {L : List RowS} {lo b j : Nat} (hL : ∀ i (hi : i < L.length) k, (L[i]).v.ownBlock = some k → k < lo) (hb : lo ≤ b) : Safe L ⟨b, j, none⟩ := fun i hi he => by
  have := hL i hi b he
  omega
theorem NatsS.of_lo {w : World} {L : List RowS} {lo : Nat} {a : Option Addr} {l : List Nat} (h : NatsAt w lo a l) (hL : ∀ i (hi : i < L.length) k, (L[i]).v.ownBlock = some k → k < lo) : NatsS w L a l := fun j hj => by
  obtain ⟨b, h1, h0, h2⟩ := h j hj
  exact ⟨b, h1, h2, safe_lo hL h0⟩
theorem NatssS.of_lo {w : World} {L : List RowS} {lo : Nat} {a : Option Addr} {l : List (List Nat)} (h : NatssAt w lo a l) (hL : ∀ i (hi : i < L.length) k, (L[i]).v.ownBlock = some k → k < lo) : NatssS w L a l := fun j hj => by
  obtain ⟨b, ao, cap, h1, h0, h2, h3, h4, h5, h6⟩ := h j hj
  exact ⟨b, ao, cap, h1, h2, safe_lo hL h0, h3, h4, h5, .of_lo h6 hL⟩
theorem NatsS.cons {w w' : World} {L : List RowS} {r : RowS} {a : Option Addr} {l : List Nat} (h : NatsS w L a l) (hg : w.grownBy w' none) (hr : ∀ k, r.v.ownBlock = some k → w.heap.size ≤ k) : NatsS w' (r :: L) a l := fun j hj => by
  obtain ⟨b, h1, h2, h3⟩ := h j hj
  refine ⟨b, h1, hg.cell h2 (by simp), fun i hi he => ?_⟩
  have hlt := World.block_lt_of_cell? w _ h2
  cases i with
  | zero => have := hr b he; exact absurd hlt (by show ¬ b < _; omega)
  | succ i => exact h3 i (by simpa using hi) he
theorem NatssS.cons {w w' : World} {L : List RowS} {r : RowS} {a : Option Addr} {l : List (List Nat)} (h : NatssS w L a l) (hg : w.grownBy w' none) (hr : ∀ k, r.v.ownBlock = some k → w.heap.size ≤ k) : NatssS w' (r :: L) a l := fun j hj => by
  obtain ⟨b, ao, cap, h1, h2, h0, h3, h4, h5, h6⟩ := h j hj
  refine ⟨b, ao, cap, h1, hg.cell h2 (by simp), fun i hi he => ?_, h3, h4, h5, h6.cons hg hr⟩
  have hlt := World.block_lt_of_cell? w _ h2
  cases i with
  | zero => have := hr b he; exact absurd hlt (by show ¬ b < _; omega)
  | succ i => exact h0 i (by simpa using hi) he
theorem NatsS.at {w : World} {L : List RowS} {a : Option Addr} {l : List Nat} (h : NatsS w L a l) : NatsAt w 0 a l := fun j hj => by
  obtain ⟨b, h1, h2, h3⟩ := h j hj
  exact ⟨b, h1, Nat.zero_le _, h2⟩
theorem NatssS.at {w : World} {L : List RowS} {a : Option Addr} {l : List (List Nat)} (h : NatssS w L a l) : NatssAt w 0 a l := fun j hj => by
  obtain ⟨b, ao, cap, h1, h2, h0, h3, h4, h5, h6⟩ := h j hj
  exact ⟨b, ao, cap, h1, Nat.zero_le _, h2, h3, h4, h5, h6.at⟩

/-- The network: its groups' sizes, its links. -/
structure NetAt (w : World) (nb : Nat) (ps : List Nat) (all : Bool) (prs : List (Nat × Nat)) : Prop where
  groups : ∃ a cap, w.cell? ⟨nb, 2, none⟩ = some (.slice a ps.length cap) ∧ ∀ j (hj : j < ps.length), ∃ b pa pc, a = some ⟨b, 0, none⟩ ∧ w.cell? ⟨b, j * 3, none⟩ = some (.string ⟨#[]⟩) ∧ w.cell? ⟨b, j * 3 + 1, none⟩ = some (.string ⟨#[]⟩) ∧ w.cell? ⟨b, j * 3 + 2, none⟩ = some (.slice pa ps[j] pc)
  procs : ∃ a cap, w.cell? ⟨nb, 4, none⟩ = some (.slice a ps.sum cap)
  allL : w.cell? ⟨nb, 6, none⟩ = some (.bool all)
  links : all = false → ∃ mb es clock, w.cell? ⟨nb, 7, none⟩ = some (.map (some mb)) ∧ w.heap[mb]? = some (.map es clock) ∧ es.size = prs.length
  list : all = false → ∃ a cap, w.cell? ⟨nb, 8, none⟩ = some (.slice a prs.length cap) ∧ ∀ j (hj : j < prs.length), ∃ b, a = some ⟨b, 0, none⟩ ∧ w.cell? ⟨b, j * 2, none⟩ = some (iv prs[j].1) ∧ w.cell? ⟨b, j * 2 + 1, none⟩ = some (iv prs[j].2)

theorem NetAt.below {w w' : World} {nb : Nat} {ps : List Nat} {all : Bool} {prs : List (Nat × Nat)} (h : NetAt w nb ps all prs) (hb : Below w.heap.size w w') : NetAt w' nb ps all prs := by
  refine ⟨?_, ?_, Below.cellK hb h.allL, fun ha => ?_, fun ha => ?_⟩
  · obtain ⟨a, cap, h1, h2⟩ := h.groups
    refine ⟨a, cap, Below.cellK hb h1, fun j hj => ?_⟩
    obtain ⟨b, pa, pc, e, x1, x2, x3⟩ := h2 j hj
    exact ⟨b, pa, pc, e, Below.cellK hb x1, Below.cellK hb x2, Below.cellK hb x3⟩
  · obtain ⟨a, cap, h1⟩ := h.procs
    exact ⟨a, cap, Below.cellK hb h1⟩
  · obtain ⟨mb, es, clock, h1, h2, h3⟩ := h.links ha
    exact ⟨mb, es, clock, Below.cellK hb h1, by rw [hb.block mb (Array.getElem?_eq_some_iff.1 h2).1]; exact h2, h3⟩
  · obtain ⟨a, cap, h1, h2⟩ := h.list ha
    refine ⟨a, cap, Below.cellK hb h1, fun j hj => ?_⟩
    obtain ⟨b, e, x1, x2⟩ := h2 j hj
    exact ⟨b, e, Below.cellK hb x1, Below.cellK hb x2⟩

def linkN (ps : List Nat) (all : Bool) (prs : List (Nat × Nat)) : Nat := if all then ps.length * (ps.length - 1) / 2 else prs.length

theorem groups_any (nb : Nat) (a : Option Addr) (n cap : Nat) (w : World) (h : w.cell? ⟨nb, 2, none⟩ = some (.slice a n cap)) :
    Calls Ybaf.prog 13 #[.pointer (some ⟨nb, 0, none⟩)] w fun e w' => e = .returned (.slice a n cap) ∧ w = w' := by
  go_enter Ybaf.func13, Ybaf.ntmps13
  go_wp2
  go_ret
  exact ⟨rfl, rfl⟩
theorem procs_any (nb : Nat) (a : Option Addr) (n cap : Nat) (w : World) (h : w.cell? ⟨nb, 4, none⟩ = some (.slice a n cap)) :
    Calls Ybaf.prog 14 #[.pointer (some ⟨nb, 0, none⟩)] w fun e w' => e = .returned (.slice a n cap) ∧ w = w' := by
  go_enter Ybaf.func14, Ybaf.ntmps14
  go_wp2
  go_ret
  exact ⟨rfl, rfl⟩

theorem linkCount_any (nb : Nat) (ps : List Nat) (all : Bool) (prs : List (Nat × Nat)) (w : World) (h : NetAt w nb ps all prs) (hp : ps.length ≤ 4) (h1 : 1 ≤ ps.length) :
    Calls Ybaf.prog 12 #[.pointer (some ⟨nb, 0, none⟩)] w fun e w' => e = .returned (iv (linkN ps all prs)) ∧ w = w' := by
  obtain ⟨a, cap, g1, _⟩ := h.groups
  have g6 := h.allL
  cases all
  · obtain ⟨mb, es, clock, g7, g8, g9⟩ := h.links rfl
    have hlen : ∀ ty, (Builtin.len_ #[52] ty #[.map (some mb)]).run Ybaf.prog w = .ok (.int .i64 (es.size : Int)) w := fun ty => run_len_map w 52 ty mb es clock (by kernel_rfl) g8
    have HS : Hid (es.size = prs.length) := g9
    clear g9 h
    go_enter Ybaf.func12, Ybaf.ntmps12
    go_wp2
    go_ret
    exact ⟨by rw [HS.out]; rfl, rfl⟩
  · clear h
    have hl : linkN ps true prs = ps.length * (ps.length - 1) / 2 := rfl
    rw [hl]
    clear hl
    generalize ps.length = n at g1 hp h1 ⊢
    obtain rfl | rfl | rfl | rfl : n = 1 ∨ n = 2 ∨ n = 3 ∨ n = 4 := by omega
    all_goals (go_enter Ybaf.func12, Ybaf.ntmps12; go_wp2; go_ret; exact ⟨rfl, rfl⟩)

def fullB (ps : List Nat) (all : Bool) (prs : List (Nat × Nat)) : Bool := linkN ps all prs == ps.length * (ps.length - 1) / 2

theorem fully_any (nb : Nat) (ps : List Nat) (all : Bool) (prs : List (Nat × Nat)) (w : World) (h : NetAt w nb ps all prs) (hp : ps.length ≤ 4) (h1 : 1 ≤ ps.length) :
    Calls Ybaf.prog 9 #[.pointer (some ⟨nb, 0, none⟩)] w fun e w' => e = .returned (.bool (fullB ps all prs)) ∧ w = w' := by
  obtain ⟨a, cap, g1, _⟩ := h.groups
  have hc := linkCount_any nb ps all prs w h hp h1
  unfold fullB
  generalize linkN ps all prs = k at hc
  clear h
  generalize ps.length = n at g1 hp h1 ⊢
  unfold iv at hc
  obtain rfl | rfl | rfl | rfl : n = 1 ∨ n = 2 ∨ n = 3 ∨ n = 4 := by omega
  all_goals (go_enter Ybaf.func9, Ybaf.ntmps9; go_wp2_with (go_at_call 12; refine hc.mono ?_; rintro e w1 ⟨rfl, rfl⟩); go_ret; refine ⟨?_, rfl⟩; simp)
  all_goals (rw [Bool.eq_iff_iff]; simp only [beq_iff_eq]; omega)

end YbulkaxksFmt
end Go.Proofs
