/-
  readName over a name of labels, with the closure that takes them down.
-/
import Derived.Test.YbulkaxhmFmtLab
import Derived.Test.YbulkaxhmFmtOpts
set_option linter.unusedVariables false
set_option linter.unusedSimpArgs false
namespace Go.Proofs.YbulkaxhmFmt
open Go.RowKit

theorem BytesAt.below {w w' : World} {mg o B : Nat} {l : List UInt8} (h : BytesAt w mg o l) (hb : Below B w w') (hm : mg < B) : BytesAt w' mg o l :=
  fun j hj => (World.cell?_of_block (hb.block mg hm)).trans (h j hj)

def NamePost (B mb : Nat) (r : Bool) (qv ov lv : Value) (nq : Nat) (qxs : List Value) (no : Nat) (oxs lxs : List Value) (ls : List (List UInt8)) (p n : Nat) (w : World) (e : Ending) (w' : World) : Prop :=
  (p + wireLs ls + 1 ≤ n ∧ e = .returned (.tuple #[.int .i64 ((p + wireLs ls + 1 : Nat) : Int), .nilIface]) ∧ ∃ lv', Goes B w (LM mb r qv ov lv nq qxs no oxs lxs) w' (LM mb r qv ov lv' nq qxs no oxs (lxs ++ svs ls))) ∨
  (n < p + wireLs ls + 1 ∧ ∃ b s, w'.cell? ⟨b, 0, none⟩ = some (.string s) ∧ e = .returned (.tuple #[.int .i64 0, .iface 80 (.pointer (some ⟨b, 0, none⟩))]) ∧ Below B w w' ∧ B ≤ w'.heap.size)

/-- The loop over the labels. -/
def NRel (B mb : Nat) (r : Bool) (qv ov lv : Value) (nq : Nat) (qxs : List Value) (no : Nat) (oxs lxs : List Value) (ls : List (List UInt8)) (p : Nat) (w : World) (ofv wlv ev pv : Value) (wr : World) : Prop :=
  ∃ (i q wl : Nat) (lv' : Value), i ≤ ls.length ∧ ofv = .int .i64 (q : Int) ∧ wlv = .int .i64 (wl : Int) ∧ ev = .int .i64 (-1) ∧ pv = .int .i64 0 ∧ Hid (q = p + wireLs (ls.take i) ∧ wl = 1 + wireLs (ls.take i)) ∧ q ≤ p + 255 ∧ wl ≤ 255 ∧
    Goes B w (LM mb r qv ov lv nq qxs no oxs lxs) wr (LM mb r qv ov lv' nq qxs no oxs (lxs ++ svs (ls.take i)))

theorem wire_take {ls : List (List UInt8)} {i : Nat} (h : i < ls.length) : wireLs (ls.take (i + 1)) = wireLs (ls.take i) + (1 + ls[i].length) := by
  rw [List.take_succ_eq_append_getElem h, wireLs_snoc]
theorem wire_take_le (ls : List (List UInt8)) (i : Nat) : wireLs (ls.take i) ≤ wireLs ls := by
  have := wireLs_append (ls.take i) (ls.drop i)
  rw [List.take_append_drop] at this
  omega
theorem wire_lt {ls : List (List UInt8)} {i : Nat} (h : i < ls.length) : wireLs (ls.take i) + (1 + ls[i].length) ≤ wireLs ls := by
  rw [← wire_take h]; exact wire_take_le _ _

theorem name_cell {w : World} {mg p i : Nat} {ls : List (List UInt8)} (h : BytesAt w mg p (encLs ls ++ [0])) (hi : i < ls.length) (hl : ls[i].length ≤ 63) : w.cell? ⟨mg, p + wireLs (ls.take i), none⟩ = some (.int .u8 (ls[i].length : Int)) := by
  have e : encLs ls = encLs (ls.take i) ++ (UInt8.ofNat ls[i].length :: (ls[i] ++ encLs (ls.drop (i + 1)))) := by
    conv => lhs; rw [← List.take_append_drop i ls, encLs_append, List.drop_eq_getElem_cons hi]
    rfl
  rw [e, List.append_assoc] at h
  have := h.right 0 (by simp)
  rw [encLs_length] at this
  simp [bv] at this
  rw [this]
  simp
  omega
theorem name_end {w : World} {mg p : Nat} {ls : List (List UInt8)} (h : BytesAt w mg p (encLs ls ++ [0])) : w.cell? ⟨mg, p + wireLs ls, none⟩ = some (.int .u8 0) := by
  have := h.right 0 (by simp)
  rw [encLs_length] at this
  simpa [bv] using this

set_option maxRecDepth 100000 in
set_option maxHeartbeats 400000 in
theorem name_any (B mb pb tb mg n cap p : Nat) (txt : ByteArray) (r : Bool) (qv ov lv : Value) (nq : Nat) (qxs : List Value) (no : Nat) (oxs lxs : List Value) (ls : List (List UInt8)) (w : World)
    (hG : Own w B (LM mb r qv ov lv nq qxs no oxs lxs)) (hB : B ≤ w.heap.size) (hp : w.cell? ⟨pb, 0, none⟩ = some (.pointer (some ⟨mb, 0, none⟩))) (hpS : Safe (LM mb r qv ov lv nq qxs no oxs lxs) ⟨pb, 0, none⟩)
    (ht : w.cell? ⟨tb, 0, none⟩ = some (.string txt)) (htS : Safe (LM mb r qv ov lv nq qxs no oxs lxs) ⟨tb, 0, none⟩) (hM : Hid (BytesAt w mg p (encLs ls ++ [0]))) (hmg : mg < B)
    (hok : Hid (∀ l ∈ ls, 0 < l.length ∧ l.length ≤ 63)) (hwl : 1 + wireLs ls ≤ 255) (hts : txt.size = n) (hn : n ≤ 900000000) (hp9 : p ≤ 900000000) (hl : lxs.length + ls.length ≤ 90000000)
    (hT : Hid (∀ i (hi : i < ls.length), p + wireLs (ls.take i) + 1 + ls[i].length ≤ n → txt.extract (p + wireLs (ls.take i) + 1) (p + wireLs (ls.take i) + 1 + ls[i].length) = ⟨ls[i].toArray⟩)) :
    Calls Ybaf.prog 21 #[.slice (some ⟨mg, 0, none⟩) n cap, .int .i64 (p : Int), .func (.func 20) #[] #[.pointer (some ⟨pb, 0, none⟩), .pointer (some ⟨tb, 0, none⟩)]] w (NamePost B mb r qv ov lv nq qxs no oxs lxs ls p n w) := by
  have g0 := Goes.refl hG hB
  have hcmp : ∀ W, (binOp BinOp.neq 69 (Value.func (.func 20) #[] #[.pointer (some ⟨pb, 0, none⟩), .pointer (some ⟨tb, 0, none⟩)]) .nilFunc).run Ybaf.prog W = .ok (.bool true) W := fun _ => by kernel_rfl
  go_enter Ybaf.func21, Ybaf.ntmps21
  go_wp2_with fail
  go_loopw [1, 8, 9, 10] (fun a b c d wr => NRel B mb r qv ov lv nq qxs no oxs lxs ls p w a b c d wr) (fun a _ _ _ _ => p + 300 - (intOf a).toNat)
  case atStart => exact ⟨0, p, 1, lv, Nat.zero_le _, rfl, rfl, rfl, rfl, ⟨rfl, rfl⟩, by omega, by omega, by simpa [svs] using g0⟩
  case round =>
    obtain ⟨i, q, wl, lv', hil, rfl, rfl, rfl, rfl, HQ, hq, hw, gW⟩ := hrel
    have hMw := hM.out.below gW.below hmg
    have hwt := wire_take_le ls i
    by_cases hqn : q < n
    · by_cases hi : i < ls.length
      · have hlok := hok.out ls[i] (List.getElem_mem hi)
        have hcell := name_cell hMw hi hlok.2
        have hwlt := wire_lt hi
        rw [← HQ.out.1] at hcell
        obtain ⟨c, hc⟩ : ∃ c, c = ls[i].length := ⟨_, rfl⟩
        rw [← hc] at hcell hlok hwlt
        have hwl2 : wl + (1 + c) ≤ 255 := by have := HQ.out.2; omega
        have HC : Hid (c = ls[i].length) := hc
        clear hc
        obtain ⟨c0, c63⟩ := hlok
        have hand := and192 c c63
        have t1 : decide ((c : Int) = 0) = false := decide_eq_false (by omega)
        have hcw : IntKind.i64.wrap (c : Int) = c := by rw [IntKind.wrap_i64]; omega
        by_cases hov : q + 1 + c ≤ n
        · have t2 : decide ((n : Int) < (q : Int) + 1 + (c : Int)) = false := decide_eq_false (by omega)
          have t3 : decide ((255 : Int) < (wl : Int) + (1 + (c : Int))) = false := decide_eq_false (by omega)
          obtain ⟨p1, p2⟩ := gW.safe _ _ hp hpS
          obtain ⟨u1, u2⟩ := gW.safe _ _ ht htS
          have hx : Hid (txt.extract (q + 1) (q + 1 + c) = ⟨ls[i].toArray⟩) := by
            have h1 := hT.out i hi
            rw [← HC.out, ← HQ.out.1] at h1
            exact h1 hov
          have hsv : (svs (ls.take i)).length ≤ ls.length := by simp [svs]; omega
          go_wp2_with (go_at_call 20; refine (label_any B mb pb tb (q + 1) (q + 1 + c) txt r qv ov lv' nq qxs no oxs (lxs ++ svs (ls.take i)) wr gW.own gW.size p1 p2 u1 u2 (by omega) (by omega) (by omega) (by rw [List.length_append]; omega)).mono ?_; rintro e w2 ⟨rfl, lv2, gL⟩)
          go_roundw
          case rel =>
            have g1 := gW.trans gL
            rw [hx.out, List.append_assoc] at g1
            have e1 : svs (ls.take i) ++ [Value.string ⟨ls[i].toArray⟩] = svs (ls.take (i + 1)) := by
              rw [List.take_succ_eq_append_getElem hi, svs_append]; rfl
            rw [e1] at g1
            refine ⟨i + 1, q + (1 + c), wl + (1 + c), lv2, hi, by go_num, by go_num, rfl, rfl, ?_, ?_, by omega, g1⟩
            · show _ ∧ _
              rw [wire_take hi, ← HC.out]
              have := HQ.out
              omega
            · have := HQ.out
              omega
          case measure => simp [intOf]; omega
        · have t2 : decide ((n : Int) < (q : Int) + 1 + (c : Int)) = true := decide_eq_true (by omega)
          go_wp2_with (go_at_call 14; refine (errorsNew_any _ _).mono ?_; rintro e w1 ⟨rfl, rfl⟩)
          go_ret2
          refine .inr ⟨by have := HQ.out.1; omega, wr.heap.size, _, cell_new82 wr _, rfl, gW.below.alloc gW.size _, by have := gW.size; simp; omega⟩
      · have hie : i = ls.length := by omega
        subst hie
        have hcell := name_end hMw
        have hq0 := HQ.out.1
        rw [List.take_length] at hq0
        rw [← hq0] at hcell
        have HQ0 : Hid (q = p + wireLs ls) := hq0
        clear hq0
        go_wp2
        go_ret2
        have hq0 := HQ0.out
        refine .inl ⟨by omega, by rw [← hq0]; rfl, lv', by simpa using gW⟩
    · have hqn' : (n : Int) ≤ (q : Int) := by omega
      go_wp2_with (go_at_call 14; refine (errorsNew_any _ _).mono ?_; rintro e w1 ⟨rfl, rfl⟩)
      go_ret2
      refine .inr ⟨by have := HQ.out.1; omega, wr.heap.size, _, cell_new82 wr _, rfl, gW.below.alloc gW.size _, by have := gW.size; simp; omega⟩

end Go.Proofs.YbulkaxhmFmt
