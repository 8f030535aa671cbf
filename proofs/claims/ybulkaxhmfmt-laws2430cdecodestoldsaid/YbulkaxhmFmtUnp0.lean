/-
  Unpack over a well-formed message, or a first part of one.
-/
import Derived.Test.YbulkaxhmFmtNames
import Derived.Test.YbulkaxhmFmtErrs
import Derived.Deep.RegionHeld3
import Derived.Deep.DeepCutAuto
set_option linter.unusedVariables false
set_option linter.unusedSimpArgs false
namespace Go.Proofs
open Go.Extern.Stop Go.Stop Go.Extern Go.RowKit
theorem Ybaf.info73 : (Ybaf.prog.info? 73).map (fun i => (i.zero, i.size, i.bytes)) = some (some (.agg #[.slice none 0 0, .int .u16 0, .int .u16 0]), 3, 32) := by kernel_rfl
namespace YbulkaxhmFmt

/-- What makes the message well formed. -/
structure WF (qs : List MQ) (rs : List RRec) (no nopt : Nat) (ps : List (Nat × List UInt8)) : Prop where
  hq : qs.length ≤ 256
  hno : no ≤ 1024
  hnopt : nopt ≤ 2
  hrs : rs.length = no + nopt
  qok : ∀ q ∈ qs, q.ok
  rok : ∀ r ∈ rs, r.mid.length = 6 ∧ r.ty < 65536 ∧ r.rd.length < 65536
  r1 : ∀ i (hi : i < rs.length), (i < no → rs[i].ty ≠ 41) ∧ (no ≤ i → rs[i].ty = 41)
  r2 : ∀ (h : no < rs.length), rs[no].rd = encOpts ps
  hps : ∀ p ∈ ps, p.1 < 65536 ∧ p.2.length < 65536
  hpl : ps.length ≤ 256

def MB (fl : UInt8) (qs : List MQ) (rs : List RRec) (no nopt : Nat) : List UInt8 := hdr fl qs.length no nopt ++ (encQs qs ++ encRs rs)

/-- The QR bit. -/
def qrBit (fl : UInt8) : Bool := bits BinOp.and IntKind.u8 (fl.toNat : Int) 128 != 0

/-- The cells of the questions read. -/
def QNames (w : World) (L : List RowS) (qs : List MQ) (qxs : List Value) : Prop :=
  qxs.length = qs.length * 3 ∧ ∀ j (hj : j < qs.length), ∃ v, qxs[3 * j]? = some v ∧ StrAt w L v qs[j].ls ∧ qxs[3 * j + 1]? = some (.int .u16 (qs[j].ty : Int)) ∧ qxs[3 * j + 2]? = some (.int .u16 (qs[j].cl : Int))

/-- What Unpack leaves. -/
def Unp (B mb mg n : Nat) (fl : UInt8) (qs : List MQ) (rs : List RRec) (no nopt : Nat) (ps : List (Nat × List UInt8)) (w : World) (e : Ending) (w' : World) : Prop :=
  Below B w w' ∧ B ≤ w'.heap.size ∧
  ((∃ t v, e = .returned (.iface t v) ∧ (n < (MB fl qs rs no nopt).length ∨ 2 ≤ nopt)) ∨
   (e = .returned .nilIface ∧ (MB fl qs rs no nopt).length ≤ n ∧ nopt ≤ 1 ∧ ∃ (qv ov lv : Value) (qxs oxs lxs : List Value) (o : Nat),
      Own w' B (LM mb (qrBit fl) qv ov lv qs.length qxs (if nopt = 0 then 0 else ps.length) oxs lxs) ∧ QNames w' (LM mb (qrBit fl) qv ov lv qs.length qxs (if nopt = 0 then 0 else ps.length) oxs lxs) qs qxs ∧
      BytesAt w' mg o (if nopt = 0 then [] else encOpts ps) ∧ OptCells mg o (if nopt = 0 then [] else ps) oxs))

theorem safe_new {w : World} {B : Nat} {L : List RowS} (h : Own w B L) (j : Nat) : Safe L ⟨w.heap.size, j, none⟩ := by
  intro i hi hb
  have := (RowM.lt (h.rows i hi) _ hb).2
  exact absurd this (Nat.lt_irrefl _)

/-- A row cut to nothing. -/
theorem RowM.zero {w : World} {B e size n : Nat} {v : Value} {xs : List Value} (h : RowM w B e size v n xs) : ∃ ao cap, v = .slice ao n cap ∧ RowM w B e size (.slice ao 0 cap) 0 [] ∧ (ao = none → n = 0 ∧ cap = 0) ∧ (Value.slice ao 0 cap).ownBlock = v.ownBlock := by
  rcases h.2 with ⟨rfl, rfl⟩ | ⟨g, cap, cur, fr, rfl, hb, hg, hfr, hnc, hcm, hcs, ht⟩
  · exact ⟨none, 0, rfl, ⟨by simp, .inl ⟨rfl, rfl⟩⟩, fun _ => ⟨rfl, rfl⟩, rfl⟩
  · exact ⟨_, cap, rfl, ⟨by simp, .inr ⟨g, cap, cur, fr, rfl, hb, hg, hfr, Nat.zero_le _, hcm, hcs, by simp⟩⟩, fun h => (by cases h), rfl⟩

theorem hdr_cells {w : World} {mg : Nat} {fl : UInt8} {qs : List MQ} {rs : List RRec} {no nopt : Nat} (h : BytesAt w mg 0 (MB fl qs rs no nopt)) (hq : qs.length < 65536) (hno : no < 65536) (hnopt : nopt < 65536) :
    w.cell? ⟨mg, 2, none⟩ = some (.int .u8 (fl.toNat : Int)) ∧
    (w.cell? ⟨mg, 4, none⟩ = some (.int .u8 ((qs.length / 256 : Nat) : Int)) ∧ w.cell? ⟨mg, 4 + 1, none⟩ = some (.int .u8 ((qs.length % 256 : Nat) : Int))) ∧
    (w.cell? ⟨mg, 6, none⟩ = some (.int .u8 ((no / 256 : Nat) : Int)) ∧ w.cell? ⟨mg, 6 + 1, none⟩ = some (.int .u8 ((no % 256 : Nat) : Int))) ∧
    (w.cell? ⟨mg, 8, none⟩ = some (.int .u8 ((0 / 256 : Nat) : Int)) ∧ w.cell? ⟨mg, 8 + 1, none⟩ = some (.int .u8 ((0 % 256 : Nat) : Int))) ∧
    (w.cell? ⟨mg, 10, none⟩ = some (.int .u8 ((nopt / 256 : Nat) : Int)) ∧ w.cell? ⟨mg, 10 + 1, none⟩ = some (.int .u8 ((nopt % 256 : Nat) : Int))) := by
  have e : MB fl qs rs no nopt = [18, 52] ++ ([fl, 0] ++ (be16 qs.length ++ (be16 no ++ (be16 0 ++ (be16 nopt ++ (encQs qs ++ encRs rs)))))) := by simp [MB, hdr, be16]
  rw [e] at h
  have h2 := h.right
  have h4 := h2.right
  have h6 := h4.right
  have h8 := h6.right
  have h10 := h8.right
  refine ⟨?_, be_cells h4 hq, be_cells h6 hno, be_cells h8 (by decide), be_cells h10 hnopt⟩
  exact h2 0 (by simp)

theorem RowM.cut0 {w : World} {B e size n n' c : Nat} {ao : Option Addr} {xs : List Value} (h : RowM w B e size (.slice ao n c) n' xs) : RowM w B e size (.slice ao 0 c) 0 [] := by
  rcases h.2 with ⟨h1, rfl⟩ | ⟨g, cap, cur, fr, h1, hb, hg, hfr, hnc, hcm, hcs, ht⟩
  · injection h1 with e1 e2 e3
    subst e1; subst e3
    exact ⟨by simp, .inl ⟨rfl, rfl⟩⟩
  · injection h1 with e1 e2 e3
    subst e1; subst e3
    exact ⟨by simp, .inr ⟨g, c, cur, fr, rfl, hb, hg, hfr, Nat.zero_le _, hcm, hcs, by simp⟩⟩
theorem safe_LM {mb : Nat} {r : Bool} {qv ov lv : Value} {nq : Nat} {qxs : List Value} {no : Nat} {oxs lxs : List Value} {a : Addr} (h0 : a.block ≠ mb) (h1 : qv.ownBlock ≠ some a.block) (h2 : ov.ownBlock ≠ some a.block) (h3 : lv.ownBlock ≠ some a.block) :
    Safe (LM mb r qv ov lv nq qxs no oxs lxs) a := by
  intro i hi hb
  exfalso
  match i, hi, hb with
  | 0, _, hb => exact h0 (by injection hb with hb; exact hb.symm)
  | 1, _, hb => exact h1 hb
  | 2, _, hb => exact h2 hb
  | 3, _, hb => exact h3 hb
  | i + 4, hi, _ => simp only [LM, List.length_cons, List.length_nil] at hi; omega
theorem own_slice (ao : Option Addr) (n c n' c' : Nat) : (Value.slice ao n c).ownBlock = (Value.slice ao n' c').ownBlock := by cases ao <;> rfl
/-- The message is made empty. -/
theorem own_reset {w : World} {B mb : Nat} {r : Bool} {qa oa la : Option Addr} {q0 o0 l0 qc oc lc : Nat} {nq : Nat} {qxs : List Value} {no : Nat} {oxs lxs : List Value} (h : Goes B w (LM mb r (.slice qa q0 qc) (.slice oa o0 oc) (.slice la l0 lc) nq qxs no oxs lxs) w (LM mb r (.slice qa q0 qc) (.slice oa o0 oc) (.slice la l0 lc) nq qxs no oxs lxs)) :
    Own ((((w.setCell ⟨mb, 1, none⟩ (.slice qa 0 qc)).setCell ⟨mb, 2, none⟩ (.slice oa 0 oc)).setCell ⟨mb, 3, none⟩ (.slice la 0 lc)).drew) B (LM mb r (.slice qa 0 qc) (.slice oa 0 oc) (.slice la 0 lc) 0 [] 0 [] []) := by
  have g := (((h.setBox 0 rfl (by decide) 1 (by simp) (.slice qa 0 qc)).setBox 0 rfl (by decide) 2 (by simp) (.slice oa 0 oc)).setBox 0 rfl (by decide) 3 (by simp) (.slice la 0 lc)).drew
  have h1 := g.own.set 1 (r := ⟨73, 3, .slice qa q0 qc, nq, qxs⟩) (r' := ⟨73, 3, .slice qa 0 qc, 0, []⟩) rfl (RowM.cut0 (g.own.get 1 (r := ⟨73, 3, .slice qa q0 qc, nq, qxs⟩) rfl)) (World.grownBy.refl _ _) (.inl (own_slice _ _ _ _ _))
  have h2 := h1.set 2 (r := ⟨78, 2, .slice oa o0 oc, no, oxs⟩) (r' := ⟨78, 2, .slice oa 0 oc, 0, []⟩) rfl (RowM.cut0 (g.own.get 2 (r := ⟨78, 2, .slice oa o0 oc, no, oxs⟩) rfl)) (World.grownBy.refl _ _) (.inl (own_slice _ _ _ _ _))
  have h3 := h2.set 3 (r := rowOf 9 (.slice la l0 lc) lxs) (r' := ⟨9, 1, .slice la 0 lc, 0, []⟩) rfl (RowM.cut0 (g.own.get 3 (r := rowOf 9 (.slice la l0 lc) lxs) rfl)) (World.grownBy.refl _ _) (.inl (own_slice _ _ _ _ _))
  exact h3

def sumRR (no nopt k : Nat) : Nat := if k = 0 then 0 else if k ≤ 2 then no else no + nopt
theorem sum_step {w : World} {mg no nopt k : Nat} (hk : k < 3) (h6 : w.cell? ⟨mg, 6, none⟩ = some (.int .u8 ((no / 256 : Nat) : Int)) ∧ w.cell? ⟨mg, 6 + 1, none⟩ = some (.int .u8 ((no % 256 : Nat) : Int)))
    (h8 : w.cell? ⟨mg, 8, none⟩ = some (.int .u8 ((0 / 256 : Nat) : Int)) ∧ w.cell? ⟨mg, 8 + 1, none⟩ = some (.int .u8 ((0 % 256 : Nat) : Int)))
    (ha : w.cell? ⟨mg, 10, none⟩ = some (.int .u8 ((nopt / 256 : Nat) : Int)) ∧ w.cell? ⟨mg, 10 + 1, none⟩ = some (.int .u8 ((nopt % 256 : Nat) : Int))) :
    ∃ x : Nat, (w.cell? ⟨mg, 6 + 2 * k, none⟩ = some (.int .u8 ((x / 256 : Nat) : Int)) ∧ w.cell? ⟨mg, 6 + 2 * k + 1, none⟩ = some (.int .u8 ((x % 256 : Nat) : Int))) ∧ sumRR no nopt (k + 1) = sumRR no nopt k + x ∧ x ≤ no + nopt := by
  match k, hk with
  | 0, _ => exact ⟨no, h6, by simp [sumRR], by omega⟩
  | 1, _ => exact ⟨0, h8, by simp [sumRR], by omega⟩
  | 2, _ => exact ⟨nopt, ha, by simp [sumRR], by omega⟩
  | k + 3, h => omega
theorem sum_le (no nopt k : Nat) : sumRR no nopt k ≤ no + nopt := by unfold sumRR; split <;> (try split) <;> omega

theorem MB_length (fl : UInt8) (qs : List MQ) (rs : List RRec) (no nopt : Nat) : (MB fl qs rs no nopt).length = 12 + (encQs qs).length + (encRs rs).length := by
  unfold MB; rw [List.length_append, List.length_append, hdr_length]; omega
theorem encQs_split {qs : List MQ} {i : Nat} (h : i < qs.length) : encQs qs = encQs (qs.take i) ++ (encQ qs[i] ++ encQs (qs.drop (i + 1))) := by
  conv => lhs; rw [← List.take_append_drop i qs, encQs_append, List.drop_eq_getElem_cons h]
  rfl
theorem encQs_take {qs : List MQ} {i : Nat} (h : i < qs.length) : (encQs (qs.take (i + 1))).length = (encQs (qs.take i)).length + (wireLs qs[i].ls + 5) := by
  rw [List.take_succ_eq_append_getElem h, encQs_append, List.length_append]
  simp [encQs, encQ_length]
theorem encQs_le {qs : List MQ} {i : Nat} (h : i < qs.length) : (encQs (qs.take i)).length + (wireLs qs[i].ls + 5) ≤ (encQs qs).length := by
  have := congrArg List.length (encQs_split h)
  rw [List.length_append, List.length_append, encQ_length] at this
  omega
theorem MB_q {fl : UInt8} {qs : List MQ} {rs : List RRec} {no nopt i : Nat} (h : i < qs.length) : MB fl qs rs no nopt = (hdr fl qs.length no nopt ++ encQs (qs.take i)) ++ ((encLs qs[i].ls ++ [0]) ++ (be16 qs[i].ty ++ (be16 qs[i].cl ++ (encQs (qs.drop (i + 1)) ++ encRs rs)))) := by
  unfold MB
  conv => lhs; rw [encQs_split h]
  simp [encQ]
theorem q_bytes {w : World} {mg : Nat} {fl : UInt8} {qs : List MQ} {rs : List RRec} {no nopt i : Nat} (hb : BytesAt w mg 0 (MB fl qs rs no nopt)) (h : i < qs.length) (hok : qs[i].ok) :
    BytesAt w mg (12 + (encQs (qs.take i)).length) (encLs qs[i].ls ++ [0]) ∧
    (w.cell? ⟨mg, 12 + (encQs (qs.take i)).length + wireLs qs[i].ls + 1, none⟩ = some (.int .u8 ((qs[i].ty / 256 : Nat) : Int)) ∧ w.cell? ⟨mg, 12 + (encQs (qs.take i)).length + wireLs qs[i].ls + 1 + 1, none⟩ = some (.int .u8 ((qs[i].ty % 256 : Nat) : Int))) ∧
    (w.cell? ⟨mg, 12 + (encQs (qs.take i)).length + wireLs qs[i].ls + 1 + 2, none⟩ = some (.int .u8 ((qs[i].cl / 256 : Nat) : Int)) ∧ w.cell? ⟨mg, 12 + (encQs (qs.take i)).length + wireLs qs[i].ls + 1 + 2 + 1, none⟩ = some (.int .u8 ((qs[i].cl % 256 : Nat) : Int))) := by
  rw [MB_q h] at hb
  have h1 := hb.right
  have e1 : 0 + (hdr fl qs.length no nopt ++ encQs (qs.take i)).length = 12 + (encQs (qs.take i)).length := by rw [List.length_append, hdr_length]; omega
  rw [e1] at h1
  have h2 := h1.right
  have e2 : 12 + (encQs (qs.take i)).length + (encLs qs[i].ls ++ [0]).length = 12 + (encQs (qs.take i)).length + wireLs qs[i].ls + 1 := by simp [encLs_length]; omega
  rw [e2] at h2
  have h3 := h2.right
  rw [be16_length] at h3
  exact ⟨h1.left, be_cells h2 hok.2.2.1, be_cells h3 hok.2.2.2⟩
theorem extract_lab {M pre l post : List UInt8} {c : UInt8} {n : Nat} (h : M = pre ++ (c :: (l ++ post))) (hn : pre.length + 1 + l.length ≤ n) : (ByteArray.mk (M.take n).toArray).extract (pre.length + 1) (pre.length + 1 + l.length) = ⟨l.toArray⟩ := by
  have e : (M.take n).toArray.extract (pre.length + 1) (pre.length + 1 + l.length) = l.toArray := by
    apply Array.toList_inj.1
    rw [Array.toList_extract]
    simp only [List.extract, h]
    rw [List.drop_take, show pre ++ (c :: (l ++ post)) = (pre ++ [c]) ++ (l ++ post) by simp]
    rw [List.drop_left' (by simp)]
    rw [List.take_take]
    rw [show min (pre.length + 1 + l.length - (pre.length + 1)) (n - (pre.length + 1)) = l.length by omega]
    simp
  apply ByteArray.ext
  rw [ByteArray.data_extract]
  exact e
theorem q_text {fl : UInt8} {qs : List MQ} {rs : List RRec} {no nopt i n : Nat} {txt : ByteArray} (ht : txt = ⟨((MB fl qs rs no nopt).take n).toArray⟩) (h : i < qs.length) : ∀ j (hj : j < qs[i].ls.length),
    12 + (encQs (qs.take i)).length + wireLs (qs[i].ls.take j) + 1 + qs[i].ls[j].length ≤ n → txt.extract (12 + (encQs (qs.take i)).length + wireLs (qs[i].ls.take j) + 1) (12 + (encQs (qs.take i)).length + wireLs (qs[i].ls.take j) + 1 + qs[i].ls[j].length) = ⟨qs[i].ls[j].toArray⟩ := by
  intro j hj hn
  subst ht
  have e : encLs qs[i].ls = encLs (qs[i].ls.take j) ++ (UInt8.ofNat qs[i].ls[j].length :: (qs[i].ls[j] ++ encLs (qs[i].ls.drop (j + 1)))) := by
    conv => lhs; rw [← List.take_append_drop j qs[i].ls, encLs_append, List.drop_eq_getElem_cons hj]
    rfl
  have eM := MB_q (fl := fl) (rs := rs) (no := no) (nopt := nopt) h
  rw [e] at eM
  have hl : ((hdr fl qs.length no nopt ++ encQs (qs.take i)) ++ encLs (qs[i].ls.take j)).length = 12 + (encQs (qs.take i)).length + wireLs (qs[i].ls.take j) := by
    rw [List.length_append, List.length_append, hdr_length, encLs_length]
  rw [← hl] at hn ⊢
  exact extract_lab (c := UInt8.ofNat qs[i].ls[j].length) (post := encLs (qs[i].ls.drop (j + 1)) ++ ([0] ++ (be16 qs[i].ty ++ (be16 qs[i].cl ++ (encQs (qs.drop (i + 1)) ++ encRs rs))))) (by rw [eM]; simp) hn
theorem Goes.pushR {B : Nat} {w w1 w2 : World} {L L1 : List RowS} (h : Goes B w L w1 L1) (i : Nat) {e size n m : Nat} {v v' : Value} {xs news : List Value} (hr : L1[i]? = some ⟨e, size, v, n, xs⟩)
    (h1 : RowM w2 B e size v' (n + m) (xs ++ news)) (h2 : w1.grownBy w2 v.ownBlock) (h3 : v'.ownBlock = v.ownBlock ∨ v'.ownBlock = some w1.heap.size) (h4 : KeptUpTo w1 w2 v.ownBlock (n * size)) (hs : e = 9 → size = 1) :
    Goes B w L w2 (L1.set i ⟨e, size, v', n + m, xs ++ news⟩) := by
  refine h.row i hr h1 h2 ?_ rfl rfl (by simp) (fun he => ?_)
  · rcases h3 with h3 | h3
    · exact .inl h3
    · exact .inr ⟨_, h3, by omega⟩
  · rw [hs he] at h4
    simpa using h4
theorem ls_count {q : MQ} (h : q.ok) : q.ls.length ≤ 127 := by
  have : ∀ (ls : List (List UInt8)), (∀ l ∈ ls, 0 < l.length ∧ l.length ≤ 63) → 2 * ls.length ≤ wireLs ls := by
    intro ls
    induction ls with
    | nil => intro _; simp [wireLs]
    | cons x t ih =>
      intro h
      have := ih (fun l hl => h l (List.mem_cons_of_mem _ hl))
      have := h x (List.mem_cons_self)
      simp only [wireLs, List.length_cons]
      omega
  have := this q.ls h.1
  have := h.2.1
  omega

/-- The loop over the questions. -/
def QLRel (B mb n : Nat) (r : Bool) (qs : List MQ) (ov : Value) (wb : World) (L0 : List RowS) (ofv iv : Value) (wr : World) : Prop :=
  ∃ (i off : Nat) (qv lv : Value) (qxs lxs : List Value), i ≤ qs.length ∧ ofv = .int .i64 (off : Int) ∧ iv = .int .i64 (i : Int) ∧ Hid (off = 12 + (encQs (qs.take i)).length) ∧ off ≤ n ∧ lxs.length ≤ 128 * i ∧
    Goes B wb L0 wr (LM mb r qv ov lv i qxs 0 [] lxs) ∧ Hid (QNames wr (LM mb r qv ov lv i qxs 0 [] lxs) (qs.take i) qxs)


/-- The sequence that begins with region 'k'. -/
def findSeq (k : Nat) : Code → Option Code
  | .seq (.region id o d) b => if id = k then some (.seq (.region id o d) b) else findSeq k b
  | .seq a b => match findSeq k a with
    | some c => some c
    | none => findSeq k b
  | .block _ c => findSeq k c
  | .loop c => findSeq k c
  | .scope c => findSeq k c
  | .cond _ a b => match findSeq k a with
    | some c => some c
    | none => findSeq k b
  | _ => none
noncomputable def code14 : Code := (Ybaf.f12.body.bind (findSeq 14)).getD .skip
noncomputable def code27 : Code := (Ybaf.f12.body.bind (findSeq 27)).getD .skip

theorem encRs_split {rs : List RRec} {i : Nat} (h : i < rs.length) : encRs rs = encRs (rs.take i) ++ (encR rs[i] ++ encRs (rs.drop (i + 1))) := by
  conv => lhs; rw [← List.take_append_drop i rs, encRs_append, List.drop_eq_getElem_cons h]
  rfl
theorem encRs_take {rs : List RRec} {i : Nat} (h : i < rs.length) (hm : rs[i].mid.length = 6) : (encRs (rs.take (i + 1))).length = (encRs (rs.take i)).length + (11 + rs[i].rd.length) := by
  rw [List.take_succ_eq_append_getElem h, encRs_append, List.length_append]
  simp [encRs, encR_length _ hm]
theorem encRs_le {rs : List RRec} {i : Nat} (h : i < rs.length) (hm : rs[i].mid.length = 6) : (encRs (rs.take i)).length + (11 + rs[i].rd.length) ≤ (encRs rs).length := by
  have := congrArg List.length (encRs_split h)
  rw [List.length_append, List.length_append, encR_length _ hm] at this
  omega
theorem MB_r {fl : UInt8} {qs : List MQ} {rs : List RRec} {no nopt i : Nat} (h : i < rs.length) : MB fl qs rs no nopt = (hdr fl qs.length no nopt ++ (encQs qs ++ encRs (rs.take i))) ++ ([0] ++ (be16 rs[i].ty ++ (rs[i].mid ++ (be16 rs[i].rd.length ++ (rs[i].rd ++ encRs (rs.drop (i + 1))))))) := by
  unfold MB
  conv => lhs; rw [encRs_split h]
  simp [encR]
theorem r_bytes {w : World} {mg o : Nat} {fl : UInt8} {qs : List MQ} {rs : List RRec} {no nopt i : Nat} (hb : BytesAt w mg 0 (MB fl qs rs no nopt)) (h : i < rs.length) (hok : rs[i].mid.length = 6 ∧ rs[i].ty < 65536 ∧ rs[i].rd.length < 65536)
    (ho : o = 12 + (encQs qs).length + (encRs (rs.take i)).length) :
    w.cell? ⟨mg, o, none⟩ = some (.int .u8 0) ∧
    (w.cell? ⟨mg, o + 1, none⟩ = some (.int .u8 ((rs[i].ty / 256 : Nat) : Int)) ∧ w.cell? ⟨mg, o + 1 + 1, none⟩ = some (.int .u8 ((rs[i].ty % 256 : Nat) : Int))) ∧
    (w.cell? ⟨mg, o + 9, none⟩ = some (.int .u8 ((rs[i].rd.length / 256 : Nat) : Int)) ∧ w.cell? ⟨mg, o + 9 + 1, none⟩ = some (.int .u8 ((rs[i].rd.length % 256 : Nat) : Int))) ∧
    BytesAt w mg (o + 11) rs[i].rd := by
  subst ho
  rw [MB_r h] at hb
  have h1 := hb.right
  have e1 : 0 + (hdr fl qs.length no nopt ++ (encQs qs ++ encRs (rs.take i))).length = 12 + (encQs qs).length + (encRs (rs.take i)).length := by rw [List.length_append, List.length_append, hdr_length]; omega
  rw [e1] at h1
  generalize 12 + (encQs qs).length + (encRs (rs.take i)).length = o at h1
  have h2 := h1.right
  have h3 := h2.right
  have h4 := h3.right
  have h5 := h4.right
  rw [be16_length] at h3 h4 h5
  rw [hok.1] at h4 h5
  simp only [List.length_cons, List.length_nil] at h2 h3 h4 h5
  have e2 : o + (0 + 1) = o + 1 := by omega
  have e4 : o + (0 + 1) + 2 + 6 = o + 9 := by omega
  have e5 : o + (0 + 1) + 2 + 6 + 2 = o + 11 := by omega
  rw [e2] at h2
  rw [e4] at h4
  rw [be16_length, e5] at h5
  exact ⟨by simpa [bv] using h1 0 (by simp), be_cells h2 hok.2.1, be_cells h4 hok.2.2, h5.left⟩

/-- The loop over the records. -/
def RLRel (B mb mg n : Nat) (r : Bool) (qs : List MQ) (rs : List RRec) (no : Nat) (ps : List (Nat × List UInt8)) (qv lv : Value) (qxs lxs : List Value) (wb : World) (L0 : List RowS) (ofv sv iv : Value) (wr : World) : Prop :=
  ∃ (i off : Nat) (seen : Bool) (ov : Value) (no' : Nat) (oxs : List Value), i ≤ rs.length ∧ ofv = .int .i64 (off : Int) ∧ sv = .bool seen ∧ iv = .int .i64 (i : Int) ∧ Hid (off = 12 + (encQs qs).length + (encRs (rs.take i)).length) ∧ off ≤ n ∧ i ≤ no + 1 ∧ Hid (seen = decide (no < i)) ∧
    Goes B wb L0 wr (LM mb r qv ov lv qs.length qxs no' oxs lxs) ∧ Hid ((no < i → no' = ps.length ∧ OptCells mg (12 + (encQs qs).length + (encRs (rs.take no)).length + 11) ps oxs) ∧ (¬ no < i → no' = 0 ∧ oxs = []))

end YbulkaxhmFmt
end Go.Proofs
