/-
  readOptions over the rdata of an OPT record that is well formed.
-/
import Derived.Test.YbulkaxhmFmtRR
set_option linter.unusedVariables false
set_option linter.unusedSimpArgs false
namespace Go.Proofs
open Go.RowKit
theorem Ybaf.info78 : (Ybaf.prog.info? 78).map (fun i => (i.zero, i.size, i.bytes)) = some (some (.agg #[.int .u16 0, .slice none 0 0]), 2, 32) := by kernel_rfl
namespace YbulkaxhmFmt

/-- Bytes that lie in a block from 'o' on. -/
def BytesAt (w : World) (mg o : Nat) (l : List UInt8) : Prop := ∀ j (hj : j < l.length), w.cell? ⟨mg, o + j, none⟩ = some (bv l[j])

theorem BytesAt.right {w : World} {mg o : Nat} {a b : List UInt8} (h : BytesAt w mg o (a ++ b)) : BytesAt w mg (o + a.length) b := by
  intro j hj
  have := h (a.length + j) (by simp; omega)
  rw [List.getElem_append_right (by omega)] at this
  simpa [Nat.add_assoc] using this
theorem BytesAt.left {w : World} {mg o : Nat} {a b : List UInt8} (h : BytesAt w mg o (a ++ b)) : BytesAt w mg o a := by
  intro j hj
  have := h j (by simp; omega)
  rw [List.getElem_append_left hj] at this
  exact this
theorem BytesAt.kept {w w' : World} {mg o : Nat} {l : List UInt8} {row : Option Nat} (h : BytesAt w mg o l) (hg : w.grownBy w' row) (hr : some mg ≠ row) : BytesAt w' mg o l := fun j hj => hg.cell (h j hj) hr

theorem be_cells {w : World} {mg o n : Nat} {b : List UInt8} (h : BytesAt w mg o (be16 n ++ b)) (hn : n < 65536) : w.cell? ⟨mg, o, none⟩ = some (.int .u8 ((n / 256 : Nat) : Int)) ∧ w.cell? ⟨mg, o + 1, none⟩ = some (.int .u8 ((n % 256 : Nat) : Int)) := by
  have h0 := h 0 (by simp [be16])
  have h1 := h 1 (by simp [be16])
  simp [be16, bv] at h0 h1
  constructor
  · rw [h0]; simp; omega
  · rw [h1]; simp

/-- The option's data. -/
def DatAt (mg off len : Nat) (v : Value) : Prop := ∃ o c, v = .slice (some ⟨mg, o, none⟩) len c ∧ (0 < len → o = off)

/-- The cells of the options read: their codes and where their data lie. -/
def OptCells (mg : Nat) : Nat → List (Nat × List UInt8) → List Value → Prop
  | _, [], cs => cs = []
  | o, p :: t, cs => ∃ v r, cs = .int .u16 (p.1 : Int) :: v :: r ∧ DatAt mg (o + 4) p.2.length v ∧ OptCells mg (o + 4 + p.2.length) t r

theorem optCells_snoc {mg : Nat} : ∀ (ps : List (Nat × List UInt8)) (o : Nat) (cs : List Value) (p : Nat × List UInt8) (v : Value), OptCells mg o ps cs → DatAt mg (o + (encOpts ps).length + 4) p.2.length v →
    OptCells mg o (ps ++ [p]) (cs ++ [.int .u16 (p.1 : Int), v])
  | [], o, cs, p, v, h, hv => by
    simp [OptCells] at h
    subst h
    exact ⟨v, [], rfl, by simpa [encOpts] using hv, rfl⟩
  | q :: t, o, cs, p, v, h, hv => by
    obtain ⟨u, r, rfl, hu, hr⟩ := h
    refine ⟨u, r ++ [.int .u16 (p.1 : Int), v], rfl, hu, optCells_snoc t _ r p v hr ?_⟩
    have e : o + 4 + q.2.length + (encOpts t).length + 4 = o + (encOpts (q :: t)).length + 4 := by simp [encOpts, be16]; omega
    rw [e]; exact hv

theorem optCells_length {mg : Nat} : ∀ (ps : List (Nat × List UInt8)) (o : Nat) (cs : List Value), OptCells mg o ps cs → cs.length = ps.length * 2
  | [], o, cs, h => by simp [OptCells] at h; subst h; rfl
  | q :: t, o, cs, h => by
    obtain ⟨u, r, rfl, hu, hr⟩ := h
    have := optCells_length t _ r hr
    simp [this]; omega

/-- The loop over the options. -/
def RORel (w : World) (B mg o : Nat) (ps : List (Nat × List UInt8)) (ov0 ov rdv : Value) (wr : World) : Prop :=
  ∃ (k ok ck N : Nat) (cs : List Value), k ≤ ps.length ∧ rdv = .slice (some ⟨mg, ok, none⟩) N ck ∧ N ≤ ck ∧ ck ≤ maxLen ∧ Hid (N = (encOpts (ps.drop k)).length) ∧ Hid (0 < N → ok = o + (encOpts (ps.take k)).length) ∧
    RowM wr B 78 2 ov k cs ∧ Hid (OptCells mg o (ps.take k) cs) ∧ w.grownBy wr ov0.ownBlock ∧ (ov.ownBlock = ov0.ownBlock ∨ ∃ b, ov.ownBlock = some b ∧ w.heap.size ≤ b)

theorem ropts_step {w wr w3 : World} {B mg o k ok c d N2 o1 c1 o2 c2 n1 n2 : Nat} {ps : List (Nat × List UInt8)} {dat : List UInt8} {ov0 ov ov' : Value} {cs : List Value} (hkp : k < ps.length) (hc : c = ps[k].1) (hdat : dat = ps[k].2) (hd : d = dat.length)
    (hN2 : N2 = (encOpts (ps.drop (k + 1))).length) (hok : ok = o + (encOpts (ps.take k)).length) (hat1 : (encOpts (ps.take (k + 1))).length = (encOpts (ps.take k)).length + 4 + d) (HO : OptCells mg o (ps.take k) cs) (hg : w.grownBy wr ov0.ownBlock)
    (hat : ov.ownBlock = ov0.ownBlock ∨ ∃ b, ov.ownBlock = some b ∧ w.heap.size ≤ b) (h1 : RowM w3 B 78 2 ov' (k + 1) (cs ++ [.int .u16 (c : Int), .slice (some ⟨mg, o1, none⟩) n1 c1])) (hg3 : wr.grownBy w3 ov.ownBlock)
    (hat3 : ov'.ownBlock = ov.ownBlock ∨ ∃ b, ov'.ownBlock = some b ∧ wr.heap.size ≤ b) (hn1 : n1 = d) (ho1 : 0 < d → o1 = ok + 4) (hn2 : n2 = N2) (ho2 : 0 < N2 → o2 = ok + 4 + d) (hc2 : N2 ≤ c2) (hc3 : c2 ≤ maxLen) :
    RORel w B mg o ps ov0 ov' (.slice (some ⟨mg, o2, none⟩) n2 c2) w3 := by
  subst hn1; subst hn2
  have hs := hg.size
  refine ⟨k + 1, o2, c2, n2, _, hkp, rfl, hc2, hc3, hN2, fun h => by rw [ho2 h, hok, hat1]; omega, h1, ?_, ?_, ?_⟩
  · show OptCells _ _ _ _
    rw [List.take_succ_eq_append_getElem hkp]
    have := optCells_snoc (ps.take k) o cs ps[k] (.slice (some ⟨mg, o1, none⟩) n1 c1) HO ⟨o1, c1, by rw [← hdat, ← hd], fun h => by rw [ho1 (by rw [hd, hdat]; exact h), hok]⟩
    rw [← hc] at this
    exact this
  · refine ⟨hg3.os.trans hg.os, hg3.tape.trans hg.tape, hg3.output.trans hg.output, Nat.le_trans hg.size hg3.size, fun b hb hne => ?_⟩
    have : some b ≠ ov.ownBlock := by
      rcases hat with h | ⟨q, h, hq⟩
      · rw [h]; exact hne
      · rw [h]; intro e; injection e with e; omega
    exact (hg3.block b (Nat.lt_of_lt_of_le hb hg.size) this).trans (hg.block b hb hne)
  · rcases hat3 with h | ⟨b, h, hb⟩
    · rw [h]; exact hat
    · exact .inr ⟨b, h, by omega⟩

theorem grown_u16b (w : World) (nq : Nat) : w.grownBy ((w.alloc (.cells #[] 63)).drewN nq) none := ⟨rfl, rfl, rfl, by show w.heap.size ≤ (w.alloc (.cells #[] 63)).heap.size; simp, fun k hk _ => Below.heap_alloc w _ k hk⟩

theorem grown_none {a b c : World} {r : Option Nat} (h1 : a.grownBy b none) (h2 : b.grownBy c r) : a.grownBy c r :=
  ⟨h2.os.trans h1.os, h2.tape.trans h1.tape, h2.output.trans h1.output, Nat.le_trans h1.size h2.size, fun k hk hne => (h2.block k (Nat.lt_of_lt_of_le hk h1.size) hne).trans (h1.block k hk (by simp))⟩

def sliceLen : Value → Nat
  | .slice _ n _ => n
  | _ => 0

theorem enc_drop {ps : List (Nat × List UInt8)} {k : Nat} (h : k < ps.length) : encOpts (ps.drop k) = be16 ps[k].1 ++ (be16 ps[k].2.length ++ (ps[k].2 ++ encOpts (ps.drop (k + 1)))) := by
  rw [List.drop_eq_getElem_cons h]; rfl
theorem enc_take {ps : List (Nat × List UInt8)} {k : Nat} (h : k < ps.length) : (encOpts (ps.take (k + 1))).length = (encOpts (ps.take k)).length + 4 + ps[k].2.length := by
  rw [List.take_succ_eq_append_getElem h, encOpts_append]
  simp [encOpts, be16]
  omega
theorem enc_split (ps : List (Nat × List UInt8)) (k : Nat) : encOpts ps = encOpts (ps.take k) ++ encOpts (ps.drop k) := by
  rw [← encOpts_append, List.take_append_drop]

set_option maxHeartbeats 1000000 in
theorem opts_any (B mg o oX L cap : Nat) (ps : List (Nat × List UInt8)) (ov0 : Value) (w : World) (hrow : RowM w B 78 2 ov0 0 []) (hB : B ≤ w.heap.size) (hb : Hid (BytesAt w mg o (encOpts ps))) (hL : Hid (L = (encOpts ps).length)) (hoX : Hid (0 < L → oX = o))
    (hcap : L ≤ cap) (hcm : cap ≤ maxLen) (hps : Hid (∀ p ∈ ps, p.1 < 65536 ∧ p.2.length < 65536)) (hk : ps.length ≤ 100000) (hm : Hid (ov0.ownBlock ≠ some mg)) (hmg : mg < w.heap.size) :
    Calls Ybaf.prog 23 #[ov0, .slice (some ⟨mg, oX, none⟩) L cap] w fun e w' => ∃ ov cs, e = .returned (.tuple #[ov, .nilIface]) ∧ RowM w' B 78 2 ov ps.length cs ∧ OptCells mg o ps cs ∧ w.grownBy w' ov0.ownBlock ∧ (ov.ownBlock = ov0.ownBlock ∨ ∃ b, ov.ownBlock = some b ∧ w.heap.size ≤ b) := by
  obtain ⟨i78, hi78, hz780, hz781, hz782⟩ := info_parts Ybaf.info78
  go_enter Ybaf.func23, Ybaf.ntmps23
  go_wp2_with fail
  go_loopw [0, 1] (fun ov rdv wr => RORel w B mg o ps ov0 ov rdv wr) (fun _ rdv _ => sliceLen rdv)
  case atStart =>
    exact ⟨0, oX, cap, L, [], Nat.zero_le _, rfl, hcap, hcm, hL.out, fun h => by have := hoX.out h; simpa [encOpts] using this, hrow, rfl, World.grownBy.refl _ _, .inl rfl⟩
  case round =>
    obtain ⟨k, ok, ck, N, cs, hkl, rfl, hNc, hcm', HN, Hok, hrw, HO, hg, hat⟩ := hrel
    unfold maxLen at hcm'
    by_cases hN : 0 < N
    · have hkp : k < ps.length := by
        rcases Nat.lt_or_ge k ps.length with h | h
        · exact h
        · have := HN.out; rw [List.drop_of_length_le h] at this; simp [encOpts] at this; omega
      have hok := Hok.out hN
      have hdr := enc_drop hkp
      have hp := hps.out ps[k] (List.getElem_mem hkp)
      have hat1 := enc_take hkp
      obtain ⟨c, hc⟩ : ∃ c, c = ps[k].1 := ⟨_, rfl⟩
      obtain ⟨dat, hdat⟩ : ∃ dat, dat = ps[k].2 := ⟨_, rfl⟩
      rw [← hc, ← hdat] at hdr hp
      rw [← hdat] at hat1
      obtain ⟨d, hd⟩ : ∃ d, d = dat.length := ⟨_, rfl⟩
      rw [← hd] at hdr hp hat1
      obtain ⟨N2, hN2⟩ : ∃ N2, N2 = (encOpts (ps.drop (k + 1))).length := ⟨_, rfl⟩
      have hNN : N = 4 + d + N2 := by rw [HN.out, hdr, hN2, hd]; simp [be16]; omega
      have hB0 : BytesAt wr mg ok (be16 c ++ (be16 d ++ (dat ++ encOpts (ps.drop (k + 1))))) := by
        have h0 := hb.out
        rw [enc_split ps k] at h0
        have h1 := h0.right
        rw [← hok, hdr] at h1
        exact h1.kept hg (fun e => hm.out e.symm)
      obtain ⟨X1, X2⟩ := be_cells hB0 hp.1
      obtain ⟨Y1, Y2⟩ := be_cells hB0.right hp.2
      rw [be16_length] at Y1 Y2
      have q1 : 4 ≤ N := by omega
      have q2 : 2 ≤ N - 2 := by omega
      have q3 : 4 + d ≤ N := by omega
      have qc : c ≤ 65535 := by omega
      have qd : d ≤ 65535 := by omega
      have HC : Hid (256 * ((c / 256 : Nat) : Int) + ((c % 256 : Nat) : Int) = c) := by show _ = _; omega
      have HD : Hid (256 * ((d / 256 : Nat) : Int) + ((d % 256 : Nat) : Int) = d) := by show _ = _; omega
      have HWD : Hid (IntKind.i64.wrap (d : Int) = d) := by show _ = _; rw [IntKind.wrap_i64]; omega
      have HNN : Hid (N = 4 + d + N2) := hNN
      have H0 : Hid (c = ps[k].1 ∧ dat = ps[k].2 ∧ d = dat.length ∧ N2 = (encOpts (ps.drop (k + 1))).length ∧ ok = o + (encOpts (ps.take k)).length ∧ (encOpts (ps.take (k + 1))).length = (encOpts (ps.take k)).length + 4 + d) := ⟨hc, hdat, hd, hN2, hok, hat1⟩
      obtain ⟨x1, hx1⟩ : ∃ x : Int, x = ((c / 256 : Nat) : Int) := ⟨_, rfl⟩
      obtain ⟨x2, hx2⟩ : ∃ x : Int, x = ((c % 256 : Nat) : Int) := ⟨_, rfl⟩
      obtain ⟨y1, hy1⟩ : ∃ x : Int, x = ((d / 256 : Nat) : Int) := ⟨_, rfl⟩
      obtain ⟨y2, hy2⟩ : ∃ x : Int, x = ((d % 256 : Nat) : Int) := ⟨_, rfl⟩
      rw [← hx1] at X1 HC
      rw [← hx2] at X2 HC
      rw [← hy1] at Y1 HD
      rw [← hy2] at Y2 HD
      have a0 : 0 ≤ x1 := by omega
      have a1 : x1 ≤ 255 := by omega
      have b0 : 0 ≤ x2 := by omega
      have b1 : x2 ≤ 255 := by omega
      have c0 : 0 ≤ y1 := by omega
      have c1 : y1 ≤ 255 := by omega
      have d0 : 0 ≤ y2 := by omega
      have d1 : y2 ≤ 255 := by omega
      have m1 : N ≤ maxLen := by unfold maxLen; omega
      have m2 : N - 2 ≤ maxLen := by unfold maxLen; omega
      have t1 : decide ((0 : Int) < (N : Int)) = true := decide_eq_true (by omega)
      have t2 : decide ((N : Int) < 4) = false := decide_eq_false (by omega)
      have t3 : decide ((N : Int) < 4 + (d : Int)) = false := decide_eq_false (by omega)
      have ne2 : ¬ ck = 2 := by omega
      have t4 : (2 : Int) ≤ (N : Int) := by omega
      clear hx1 hx2 hy1 hy2 hc hdat hd hN2 hok hat1 hdr hB0 hNN hp
      obtain ⟨wq, rfl⟩ : ∃ x : World, x = wr := ⟨_, rfl⟩
      go_wp2_with (go_at_call 19; refine (uint16_any mg ok N ck x1 x2 wq (by omega) X1 X2 a0 a1 b0 b1 m1).mono ?_; rintro e w2 ⟨rfl, nq, hw2⟩)
      have gw := grown_u16b wq nq
      rw [hw2] at gw
      clear hw2
      have Y1' := gw.cell Y1 (by simp)
      have Y2' := gw.cell Y2 (by simp)
      go_cut [7] (fun s7 wx => s7 = .int .i64 (d : Int) ∧ w2.grownBy wx none)
      case first =>
        go_region_with (go_at_call 19; refine (uint16_any mg (ok + 2) (N - 2) (ck - 2) y1 y2 w2.drew q2 Y1' Y2' c0 c1 d0 d1 m2).mono ?_; rintro e w3 ⟨rfl, nq3, hw3⟩)
        all_goals (have gw3 := grown_u16 w2 nq3; rw [hw3] at gw3; clear hw3; go_wp2_with fail; go_meet; exact ⟨by rw [HD.out, HWD.out], gw3⟩)
      case rest =>
        obtain ⟨rfl, gw2⟩ := hcut
        obtain ⟨w4, rfl⟩ : ∃ x : World, x = wc := ⟨_, rfl⟩
        have gT := grown_trans2 gw gw2
        have hrw4 : RowM w4 B 78 2 u0 k cs := RowM.kept hrw gT (by cases u0.ownBlock <;> simp)
        have hbk : k + 1 ≤ 100000000 := by omega
        have hB4 : B ≤ w4.heap.size := by have := hg.size; have := gT.size; omega
        by_cases h4 : ck = 4
        · have hd0 : d = 0 := by omega
          have HCK : Hid (ck = 4) := h4
          subst hd0
          have hsrc := Src.ofSlice (P := Ybaf.prog) (size := 2) (w4.alloc (.cells #[.int .u16 (256 * x1 + x2), .slice (some ⟨mg, ok, none⟩) 0 0] 78)) Ybaf.underlying46 ⟨w4.heap.size, 0, none⟩ 1 1 [.int .u16 (256 * x1 + x2), .slice (some ⟨mg, ok, none⟩) 0 0] rfl (news_alloc w4 [.int .u16 (256 * x1 + x2), .slice (some ⟨mg, ok, none⟩) 0 0] 78) (by intro u hu; simp at hu; rcases hu with rfl | rfl <;> rfl)
          go_wp2_with (at_builtin; refine wpList_append_rowK _ rfl (.tmp 29) (.tmp 36) 46 46 rfl B 78 i78 (.agg #[.int .u16 0, .slice none 0 0]) 2 32 Ybaf.underlying46 hi78 hz780 hz781 hz782 rfl u0 k cs rfl (hrw4.alloc _) _ 1 _ rfl hsrc (max_ok hbk) (bytes_ok hbk (by decide)) (by simp; omega) ?_)
          intro ov1 w5 h51 h52 h53 h54 h55
          clear hsrc
          go_wp2
          obtain ⟨hc, hdat, hd, hN2, hok, hat1⟩ := H0.out
          have hNN := HNN.out
          rw [HC.out] at h51
          have gU : wq.grownBy w5 u0.ownBlock := grown_none gT (grown_alloc h52)
          have hsz := gT.size
          refine ⟨ropts_step hkp hc hdat hd hN2 hok hat1 HO.out hg hat h51 gU (h53.imp id fun h => ⟨_, h, by omega⟩) rfl (fun h => by omega) (by omega) (fun h => by omega) (by omega) (by unfold maxLen; omega), by simp only [sliceLen]; omega⟩
        · by_cases h5 : ck = 4 + d
          · have HCK : Hid (ck = 4 + d) := h5
            have hsrc := Src.ofSlice (P := Ybaf.prog) (size := 2) (w4.alloc (.cells #[.int .u16 (256 * x1 + x2), .slice (some ⟨mg, ok + 4, none⟩) d d] 78)) Ybaf.underlying46 ⟨w4.heap.size, 0, none⟩ 1 1 [.int .u16 (256 * x1 + x2), .slice (some ⟨mg, ok + 4, none⟩) d d] rfl (news_alloc w4 [.int .u16 (256 * x1 + x2), .slice (some ⟨mg, ok + 4, none⟩) d d] 78) (by intro u hu; simp at hu; rcases hu with rfl | rfl <;> rfl)
            go_wp2_with (at_builtin; refine wpList_append_rowK _ rfl (.tmp 29) (.tmp 36) 46 46 rfl B 78 i78 (.agg #[.int .u16 0, .slice none 0 0]) 2 32 Ybaf.underlying46 hi78 hz780 hz781 hz782 rfl u0 k cs rfl (hrw4.alloc _) _ 1 _ rfl hsrc (max_ok hbk) (bytes_ok hbk (by decide)) (by simp; omega) ?_)
            intro ov1 w5 h51 h52 h53 h54 h55
            clear hsrc
            go_wp2
            obtain ⟨hc, hdat, hd, hN2, hok, hat1⟩ := H0.out
            have hNN := HNN.out
            rw [HC.out] at h51
            have gU : wq.grownBy w5 u0.ownBlock := grown_none gT (grown_alloc h52)
            have hsz := gT.size
            refine ⟨ropts_step hkp hc hdat hd hN2 hok hat1 HO.out hg hat h51 gU (h53.imp id fun h => ⟨_, h, by omega⟩) rfl (fun h => by omega) (by omega) (fun h => by omega) (by omega) (by unfold maxLen; omega), by simp only [sliceLen]; omega⟩
          · have hsrc := Src.ofSlice (P := Ybaf.prog) (size := 2) (w4.alloc (.cells #[.int .u16 (256 * x1 + x2), .slice (some ⟨mg, ok + 4, none⟩) d (ck - 4)] 78)) Ybaf.underlying46 ⟨w4.heap.size, 0, none⟩ 1 1 [.int .u16 (256 * x1 + x2), .slice (some ⟨mg, ok + 4, none⟩) d (ck - 4)] rfl (news_alloc w4 [.int .u16 (256 * x1 + x2), .slice (some ⟨mg, ok + 4, none⟩) d (ck - 4)] 78) (by intro u hu; simp at hu; rcases hu with rfl | rfl <;> rfl)
            go_wp2_with (at_builtin; refine wpList_append_rowK _ rfl (.tmp 29) (.tmp 36) 46 46 rfl B 78 i78 (.agg #[.int .u16 0, .slice none 0 0]) 2 32 Ybaf.underlying46 hi78 hz780 hz781 hz782 rfl u0 k cs rfl (hrw4.alloc _) _ 1 _ rfl hsrc (max_ok hbk) (bytes_ok hbk (by decide)) (by simp; omega) ?_)
            intro ov1 w5 h51 h52 h53 h54 h55
            clear hsrc
            go_wp2
            obtain ⟨hc, hdat, hd, hN2, hok, hat1⟩ := H0.out
            have hNN := HNN.out
            rw [HC.out] at h51
            have gU : wq.grownBy w5 u0.ownBlock := grown_none gT (grown_alloc h52)
            have hsz := gT.size
            refine ⟨ropts_step hkp hc hdat hd hN2 hok hat1 HO.out hg hat h51 gU (h53.imp id fun h => ⟨_, h, by omega⟩) rfl (fun h => by omega) (by omega) (fun h => by omega) (by omega) (by unfold maxLen; omega), by simp only [sliceLen]; omega⟩
    · have hN0 : N = 0 := by omega
      subst hN0
      have hke : k = ps.length := by
        rcases Nat.lt_or_ge k ps.length with h | h
        · have := HN.out; rw [enc_drop h] at this; simp [be16] at this
        · omega
      subst hke
      have HOf : OptCells mg o ps cs := by have := HO.out; rw [List.take_length] at this; exact this
      have HOF : Hid (OptCells mg o ps cs) := HOf
      clear HOf
      go_wp2
      go_ret2
      exact ⟨_, cs, rfl, hrw, HOF.out, hg, hat⟩

end YbulkaxhmFmt
end Go.Proofs
