/-
  Plain facts and relations for the walk of zzs2430cbuild.
-/
import Derived.Test.YbulkaxhmFmtRowsG
import Derived.Test.YbulkaxhmFmtSmall
import Derived.Test.YbulkaxhmFmtWell
set_option linter.unusedVariables false
set_option linter.unusedSimpArgs false
namespace Go.Proofs.YbulkaxhmFmt
open Go.RowKit

def nil5 : List Value := [.slice none 0 0, .slice none 0 0, .slice none 0 0, .slice none 0 0, .slice none 0 0]

def labsOf (q : QV) : List (List UInt8) := q.labels.map fun s => s.data.toList
def mqV (q : QV) : MQ := mqOf (labsOf q) q.ty.toNat q.cl.toNat
def tyV (q : QV) : Value := .int .u16 q.ty
def clV (q : QV) : Value := .int .u16 q.cl

/-- The builder's rows. -/
def LB (mv : Value) (M : List UInt8) (nv tv cv ov dv : Value) (nvs tvs cvs ovs dvs : List Value) (wb rb : Nat) : List RowS :=
  [rowOf 23 dv dvs, rowOf 59 ov ovs, rowOf 59 cv cvs, rowOf 59 tv tvs, rowOf 28 nv nvs, rowOf 5 mv (bvs M), box 42 wb [nv, tv, cv, ov, dv], box 42 rb nil5]

theorem len_data (s : ByteArray) : s.data.toList.length = s.size := by simp
theorem fix_zero {s : ByteArray} (h : s.size = 0) : fixL s.data.toList = [97] := by
  unfold fixL
  rw [if_pos (by simpa using h)]
  rfl
theorem fix_mid {s : ByteArray} (h0 : 0 < s.size) (h1 : s.size ≤ 63) : fixL s.data.toList = s.data.toList := by
  unfold fixL
  rw [if_neg (by rw [len_data]; omega), List.take_of_length_le (by simpa using h1)]
theorem fix_long {s : ByteArray} (h1 : 63 < s.size) : fixL s.data.toList = (s.extract 0 63).data.toList := by
  unfold fixL
  rw [if_neg (by rw [len_data]; omega), ByteArray.data_extract]
  simp

theorem cut_go {labs : List (List UInt8)} {i wl : Nat} (h : i < labs.length) (hg : wl + 1 + (fixL labs[i]).length ≤ 255) : cutL wl (labs.drop i) = fixL labs[i] :: cutL (wl + (1 + (fixL labs[i]).length)) (labs.drop (i + 1)) := by
  rw [List.drop_eq_getElem_cons h, cutL, if_neg (by omega)]
theorem cut_stop {labs : List (List UInt8)} {i wl : Nat} (h : i < labs.length) (hg : 255 < wl + 1 + (fixL labs[i]).length) : cutL wl (labs.drop i) = [] := by
  rw [List.drop_eq_getElem_cons h, cutL, if_pos hg]
theorem cut_end {labs : List (List UInt8)} {i wl : Nat} (h : labs.length ≤ i) : cutL wl (labs.drop i) = [] := by
  rw [List.drop_of_length_le h, cutL]

/-- The loop over a question's labels. -/
def LRel (B : Nat) (wq : World) (Lq : List RowS) (labs : List (List UInt8)) (M0 : List UInt8) (tl : Value → List UInt8 → List RowS) (mv wlv lsv iv : Value) (wr : World) : Prop :=
  ∃ (i wl : Nat) (dn : List (List UInt8)) (M : List UInt8), i ≤ labs.length ∧ iv = .int .i64 i ∧ wlv = .int .i64 wl ∧ wl ≤ 255 ∧ dn.length ≤ i ∧ M.length ≤ M0.length + wl ∧
    Hid (wl = 1 + wireLs dn ∧ dn ++ cutL wl (labs.drop i) = cutL 1 labs ∧ M = M0 ++ encLs dn) ∧ Goes B wq Lq wr (rowOf 9 lsv (svs dn) :: tl mv M)

/-- The loop over the questions. -/
def QRel (w : World) (fl : UInt8) (no nopt : Nat) (qs : List QV) (mv i : Value) (wr : World) : Prop :=
  ∃ (k : Nat) (nv tv cv : Value) (M : List UInt8) (nvs : List Value), k ≤ qs.length ∧ i = .int .i64 k ∧ M.length ≤ 12 + 261 * k ∧ nvs.length = k ∧
    Hid (M = hdr fl qs.length no nopt ++ encQs ((qs.take k).map mqV)) ∧
    Goes w.heap.size w [] wr (LB mv M nv tv cv (.slice none 0 0) (.slice none 0 0) nvs ((qs.take k).map tyV) ((qs.take k).map clV) [] [] (w.heap.size + 1) w.heap.size) ∧
    Hid (∀ j (hj : j < nvs.length) (hj2 : j < qs.length), StrAt wr (LB mv M nv tv cv (.slice none 0 0) (.slice none 0 0) nvs ((qs.take k).map tyV) ((qs.take k).map clV) [] [] (w.heap.size + 1) w.heap.size) nvs[j] (cutL 1 (labsOf qs[j])))

theorem lbl_step {labs : List (List UInt8)} {i wl : Nat} {dn : List (List UInt8)} {M M0 : List UInt8} (h : i < labs.length) (hg : wl + 1 + (fixL labs[i]).length ≤ 255)
    (hh : wl = 1 + wireLs dn ∧ dn ++ cutL wl (labs.drop i) = cutL 1 labs ∧ M = M0 ++ encLs dn) :
    wl + (1 + (fixL labs[i]).length) = 1 + wireLs (dn ++ [fixL labs[i]]) ∧ (dn ++ [fixL labs[i]]) ++ cutL (wl + (1 + (fixL labs[i]).length)) (labs.drop (i + 1)) = cutL 1 labs ∧
      (M ++ [UInt8.ofNat (fixL labs[i]).length]) ++ fixL labs[i] = M0 ++ encLs (dn ++ [fixL labs[i]]) := by
  obtain ⟨h1, h2, h3⟩ := hh
  refine ⟨by rw [wireLs_snoc]; omega, ?_, ?_⟩
  · rw [← h2, cut_go h hg]; simp
  · rw [h3, encLs_append]; simp [encLs]

theorem lbl_done {labs : List (List UInt8)} {i wl : Nat} {dn : List (List UInt8)} {M M0 : List UInt8} (h : cutL wl (labs.drop i) = [])
    (hh : wl = 1 + wireLs dn ∧ dn ++ cutL wl (labs.drop i) = cutL 1 labs ∧ M = M0 ++ encLs dn) : dn = cutL 1 labs ∧ M = M0 ++ encLs (cutL 1 labs) := by
  obtain ⟨h1, h2, h3⟩ := hh
  rw [h, List.append_nil] at h2
  exact ⟨h2, by rw [← h2]; exact h3⟩

theorem byteCells_eq (s : ByteArray) : byteCells s = bvs s.data.toList := rfl

/-- A list of rows as a function of the message row's value and bytes: the row stands at place 'p'. -/
structure Tl (p : Nat) (tl : Value → List UInt8 → List RowS) : Prop where
  get : ∀ mv M, (tl mv M)[p]? = some (rowOf 5 mv (bvs M))
  set : ∀ mv M mv' M', (tl mv M).set p (rowOf 5 mv' (bvs M')) = tl mv' M'

/-- Bytes that lie in a block laid for them go onto the message. -/
theorem Goes.msg {B p : Nat} {w w1 w2 : World} {L : List RowS} {o : Obj} {r0 : RowS} {tl : Value → List UInt8 → List RowS} {mv mv' : Value} {M K : List UInt8} {ks : List Value} {m : Nat} (ht : Tl p tl) (h : Goes B w L w1 (r0 :: tl mv M)) (hK : ks = bvs K) (hm : K.length = m)
    (h1 : RowM w2 B 5 1 mv' ((bvs M).length + m) (bvs M ++ ks)) (h2 : (w1.alloc o).grownBy w2 mv.ownBlock) (h3 : mv'.ownBlock = mv.ownBlock ∨ mv'.ownBlock = some (w1.heap.size + 1)) (h4 : KeptUpTo (w1.alloc o) w2 mv.ownBlock (bvs M).length) :
    Goes B w L w2 (r0 :: tl mv' (M ++ K)) := by
  subst hK
  have := h.push (p + 1) (e := 5) (v := mv) (xs := bvs M) (news := bvs K) (m := m) (by simpa using ht.get mv M) (by rw [bvs_length]; exact hm) h1 h2 h3 h4
  rw [← bvs_append, List.set_cons_succ, ht.set] at this
  exact this
/-- Bytes out of elsewhere. -/
theorem Goes.msgS {B p : Nat} {w w1 w2 : World} {L : List RowS} {r0 : RowS} {tl : Value → List UInt8 → List RowS} {mv mv' : Value} {M K : List UInt8} {ks : List Value} {m : Nat} (ht : Tl p tl) (h : Goes B w L w1 (r0 :: tl mv M)) (hK : ks = bvs K) (hm : K.length = m)
    (h1 : RowM w2 B 5 1 mv' ((bvs M).length + m) (bvs M ++ ks)) (h2 : w1.grownBy w2 mv.ownBlock) (h3 : mv'.ownBlock = mv.ownBlock ∨ mv'.ownBlock = some w1.heap.size) (h4 : KeptUpTo w1 w2 mv.ownBlock (bvs M).length) :
    Goes B w L w2 (r0 :: tl mv' (M ++ K)) := by
  subst hK
  have := h.pushS (p + 1) (e := 5) (v := mv) (xs := bvs M) (news := bvs K) (m := m) (by simpa using ht.get mv M) (by rw [bvs_length]; exact hm) h1 h2 h3 h4
  rw [← bvs_append, List.set_cons_succ, ht.set] at this
  exact this
/-- AppendUint16. -/
theorem Goes.msgK {B p : Nat} {w w1 w2 : World} {L : List RowS} {r0 : RowS} {tl : Value → List UInt8 → List RowS} {mv mv' : Value} {M : List UInt8} {x : Int} (ht : Tl p tl) (h : Goes B w L w1 (r0 :: tl mv M)) (h0 : 0 ≤ x) (h1 : x ≤ 65535)
    (ha : AppK w1 B mv (bvs M).length (bvs M) 2 [.int .u8 (x / 256), .int .u8 (x % 256)] mv' w2) : Goes B w L w2 (r0 :: tl mv' (M ++ be16 x.toNat)) := by
  rw [bvs_be16 h0 h1] at ha
  have := h.pushK (p + 1) (v := mv) (xs := bvs M) (by simpa using ht.get mv M) rfl ha
  rw [← bvs_append, List.set_cons_succ, ht.set] at this
  exact this
theorem Goes.msgAt {B p : Nat} {w w1 : World} {L : List RowS} {r0 : RowS} {tl : Value → List UInt8 → List RowS} {mv : Value} {M : List UInt8} (ht : Tl p tl) (h : Goes B w L w1 (r0 :: tl mv M)) : RowM w1 B 5 1 mv (bvs M).length (bvs M) :=
  h.rowAt (p + 1) (by simpa using ht.get mv M)

theorem max_ok {n m : Nat} (h : n + m ≤ 100000000) : n + m ≤ maxLen := by unfold maxLen; omega
theorem bytes_ok {n m b : Nat} (h : n + m ≤ 100000000) (hb : b ≤ 100) : (n + m) * b ≤ 140737488355328 :=
  Nat.le_trans (Nat.mul_le_mul h hb) (by decide)

/-- A finished row of strings is a list of strings that is safe beside the rest. -/
theorem StrAt.of_row {w : World} {B : Nat} {v : Value} {ls : List (List UInt8)} {L : List RowS} (h : Own w B (rowOf 9 v (svs ls) :: L)) : StrAt w L v ls := by
  have h0 := h.rows 0 (by simp)
  have hr : RowM w B 9 1 v (svs ls).length (svs ls) := h0
  obtain ⟨ao, cap, hv⟩ := hr.form
  have hl : (svs ls).length = ls.length := by simp [svs]
  refine ⟨ao, cap, by rw [hv, hl], fun j hj => ?_⟩
  rcases hr.2 with ⟨_, hn⟩ | ⟨g, cap', cur, fr, hv', _⟩
  · omega
  · rw [hv] at hv'
    injection hv' with e1 e2 e3
    subst e1
    refine ⟨g, 0, rfl, ?_, ?_⟩
    · rw [Nat.zero_add]
      exact RowM.cells hr (g := g) (by rw [hv]; rfl) j (sv ls[j]) (by simp [svs, List.getElem?_eq_getElem hj])
    · intro k hk hb
      exfalso
      have := h.apart 0 (k + 1) (by simp) (by simpa using hk) (by omega)
      have e0 : (rowOf 9 v (svs ls)).v.ownBlock = some g := by show v.ownBlock = _; rw [hv]; rfl
      rcases this with h1 | h1
      · rw [List.getElem_cons_zero, e0] at h1; cases h1
      · rw [List.getElem_cons_zero, e0] at h1
        exact h1 hb.symm

theorem StrAt.mono {w : World} {L L' : List RowS} {v : Value} {ls : List (List UInt8)} (h : StrAt w L v ls) (hs : ∀ a, Safe L a → Safe L' a) : StrAt w L' v ls := by
  obtain ⟨ao, cap, rfl, hc⟩ := h
  refine ⟨ao, cap, rfl, fun j hj => ?_⟩
  obtain ⟨g, off, h1, h2, h3⟩ := hc j hj
  exact ⟨g, off, h1, h2, hs _ h3⟩

theorem safe_tail {r : RowS} {L : List RowS} {a : Addr} (h : Safe (r :: L) a) : Safe L a := fun i hi hb => h (i + 1) (by simpa using hi) hb

theorem sv_data (s : ByteArray) : Value.string s = sv s.data.toList := by
  unfold sv; cases s; simp

theorem lbl_bytes {M fx : List UInt8} {S : ByteArray} {x : Int} (h : fx = S.data.toList) (hs : S.size ≤ 255) (hx : x = S.size) : (bvs M ++ [Value.int .u8 x]) ++ byteCells S = bvs ((M ++ [UInt8.ofNat fx.length]) ++ fx) := by
  subst hx
  rw [bvs_append, bvs_append, byteCells_eq, ← h]
  have e : bvs [UInt8.ofNat fx.length] = [Value.int .u8 (S.size : Int)] := by
    have : fx.length = S.size := by rw [h]; simp
    simp [bvs, bv, this]
    omega
  rw [e]

theorem lbl_strs {dn : List (List UInt8)} {fx : List UInt8} {S : ByteArray} (h : fx = S.data.toList) : svs dn ++ [Value.string S] = svs (dn ++ [fx]) := by
  rw [svs_append, h, sv_data]; rfl

/-- What stands when a question is done. -/
theorem q_finish {w wo w9 : World} {Lo : List RowS} {fl : UInt8} {no nopt k : Nat} {qs : List QV} {q : QV} {nvs TY CL : List Value} {dn : List (List UInt8)} {M Mi M1 M2 M3 : List UInt8} {lv mv nv tv cv : Value} {qb : RowS}
    (hlt : k < qs.length) (hq : q = qs[k]) (hnl : nvs.length = k) (hTY : TY = (qs.take k).map tyV) (hCL : CL = (qs.take k).map clV) (hM : M = hdr fl qs.length no nopt ++ encQs ((qs.take k).map mqV))
    (hD : dn = cutL 1 (labsOf q) ∧ Mi = M ++ encLs (cutL 1 (labsOf q))) (h1 : M1 = Mi ++ [0]) (h2 : M2 = M1 ++ be16 q.ty.toNat) (h3 : M3 = M2 ++ be16 q.cl.toNat)
    (gO : Goes w.heap.size w [] wo Lo)
    (gK : Goes w.heap.size wo Lo w9 (rowOf 9 lv (svs dn) :: qb :: LB mv M3 nv tv cv (.slice none 0 0) (.slice none 0 0) (nvs ++ [lv]) (TY ++ [.int .u16 q.ty]) (CL ++ [.int .u16 q.cl]) [] [] (w.heap.size + 1) w.heap.size))
    (hN : ∀ j (hj : j < nvs.length) (hj2 : j < qs.length), StrAt wo Lo nvs[j] (cutL 1 (labsOf qs[j]))) :
    (nvs ++ [lv]).length = k + 1 ∧ Hid (M3 = hdr fl qs.length no nopt ++ encQs ((qs.take (k + 1)).map mqV)) ∧
    Goes w.heap.size w [] w9 (LB mv M3 nv tv cv (.slice none 0 0) (.slice none 0 0) (nvs ++ [lv]) ((qs.take (k + 1)).map tyV) ((qs.take (k + 1)).map clV) [] [] (w.heap.size + 1) w.heap.size) ∧
    Hid (∀ j (hj : j < (nvs ++ [lv]).length) (hj2 : j < qs.length), StrAt w9 (LB mv M3 nv tv cv (.slice none 0 0) (.slice none 0 0) (nvs ++ [lv]) ((qs.take (k + 1)).map tyV) ((qs.take (k + 1)).map clV) [] [] (w.heap.size + 1) w.heap.size) (nvs ++ [lv])[j] (cutL 1 (labsOf qs[j]))) := by
  have eT : (qs.take (k + 1)).map tyV = TY ++ [.int .u16 q.ty] := by rw [take_succ_get qs k hlt, List.map_append, hTY, hq]; rfl
  have eC : (qs.take (k + 1)).map clV = CL ++ [.int .u16 q.cl] := by rw [take_succ_get qs k hlt, List.map_append, hCL, hq]; rfl
  have eM : M3 = hdr fl qs.length no nopt ++ encQs ((qs.take (k + 1)).map mqV) := by
    rw [take_succ_get qs k hlt, List.map_append, encQs_append, h3, h2, h1, hD.2, hM, ← hq]
    simp [encQs, encQ, mqV, mqOf]
  rw [eT, eC]
  refine ⟨by simp [hnl], eM, gO.trans gK.tail.tail, fun j hj hj2 => ?_⟩
  by_cases hjl : j < nvs.length
  · rw [List.getElem_append_left hjl]
    exact ((hN j hjl hj2).goes gK).mono (fun a h => safe_tail (safe_tail h))
  · have hje : j = k := by simp at hj; omega
    subst hje
    rw [List.getElem_append_right (by omega)]
    simp only [hnl, Nat.sub_self, List.getElem_cons_zero]
    rw [← hq, ← hD.1]
    exact (StrAt.of_row gK.own).mono (fun a h => safe_tail h)

theorem orec_step {ots : List Int} {i : Nat} {z z2 : Int} {M Mi : List UInt8} (h : i < ots.length) (hz : z = ots[i]) (hM : Mi = M ++ encRs ((ots.take i).map fun z => orec z.toNat)) (ho : orec z.toNat = ⟨z2.toNat, [0, 1, 0, 0, 0, 0], []⟩) :
    ∀ M1, M1 = Mi ++ [0] → (M1 ++ be16 z2.toNat) ++ [0, 1, 0, 0, 0, 0, 0, 0] = M ++ encRs ((ots.take (i + 1)).map fun z => orec z.toNat) := by
  intro M1 h1
  rw [take_succ_get ots i h, List.map_append, encRs_append, h1, hM, ← hz]
  simp [encRs, ho, encR, be16]

theorem be_len (M : List UInt8) : ∀ n, (M ++ be16 n).length ≤ M.length + 2 := fun n => by simp [be16]

def ovD (o : OV) : List UInt8 := (o.data.take 200).map fun z => UInt8.ofNat z.toNat
def oP (o : OV) : Nat × List UInt8 := (o.code.toNat, ovD o)
def codeV (o : OV) : Value := .int .u16 o.code
def dataV (o : OV) : Value := .slice o.dao (min o.data.length 200) o.dcap
theorem ovD_length (o : OV) : (ovD o).length = min o.data.length 200 := by simp [ovD]; omega
theorem ovD_le (o : OV) : (ovD o).length ≤ 200 := by rw [ovD_length]; omega

theorem src_row {w : World} {B n : Nat} {v : Value} {l : List UInt8} (h : RowM w B 5 1 v n (bvs l)) : Src Ybaf.prog 1 23 v n (bvs l) w := by
  rcases h.2 with ⟨rfl, rfl⟩ | ⟨g, cap, cur, fr, rfl, hb, hg, _⟩
  · have : bvs l = [] := List.eq_nil_of_length_eq_zero (by have := h.1; omega)
    rw [this]
    exact Src.ofNil w Ybaf.underlying23 0
  · exact Src.ofSlice w Ybaf.underlying23 _ n cap (bvs l) h.1 (fun j u hu => by rw [add_zero_off]; exact RowM.cells h (g := g) rfl j u hu) (bvs_oneCell l)

theorem src_ints {w : World} {ao : Option Addr} {zs : List Int} {n cap : Nat} (h : IntsAt w .u8 ao zs) (hn : n ≤ zs.length) : Src Ybaf.prog 1 23 (.slice ao n cap) n ((zs.take n).map (Value.int .u8)) w := by
  rcases Nat.eq_zero_or_pos n with h0 | h0
  · subst h0
    cases ao with
    | none => exact Src.ofNil w Ybaf.underlying23 cap
    | some a => exact Src.ofSlice w Ybaf.underlying23 a 0 cap [] rfl (fun j u hu => by simp at hu) (fun _ h => by cases h)
  · obtain ⟨b, off, rfl, _, _⟩ := h 0 (by omega)
    refine Src.ofSlice w Ybaf.underlying23 ⟨b, off, none⟩ n cap _ (by simp; omega) (fun j u hu => ?_) (ints_one _)
    obtain ⟨hj, hu'⟩ := List.getElem?_eq_some_iff.1 hu
    simp at hj
    obtain ⟨b', off', e, _, hc⟩ := h j (by omega)
    injection e with e
    injection e with e1 e2 e3
    subst e1; subst e2
    have hadd : (⟨b, off, none⟩ : Addr).add j = ⟨b, off + j, none⟩ := by unfold Addr.add; split <;> simp_all
    rw [hadd, hc, ← hu']
    simp

theorem ovD_bvs {o : OV} (h : ∀ z ∈ o.data, 0 ≤ z ∧ z ≤ 255) : (o.data.take (min o.data.length 200)).map (Value.int .u8) = bvs (ovD o) := by
  have e : o.data.take (min o.data.length 200) = o.data.take 200 := by
    by_cases hl : o.data.length ≤ 200
    · rw [Nat.min_eq_left hl, List.take_of_length_le (Nat.le_refl _), List.take_of_length_le hl]
    · rw [Nat.min_eq_right (by omega)]
  rw [e]
  unfold bvs ovD
  rw [List.map_map]
  apply List.map_congr_left
  intro z hz
  have := h z (List.mem_of_mem_take hz)
  simp [bv]
  omega

theorem opt_step {ops : List OV} {i : Nat} {o : OV} {RD CO DA} (h : i < ops.length) (ho : o = ops[i]) (hh : RD = encOpts ((ops.take i).map oP) ∧ CO = (ops.take i).map codeV ∧ DA = (ops.take i).map dataV) :
    ((RD ++ be16 o.code.toNat) ++ be16 (min o.data.length 200)) ++ ovD o = encOpts ((ops.take (i + 1)).map oP) ∧ CO ++ [codeV o] = (ops.take (i + 1)).map codeV ∧ DA ++ [dataV o] = (ops.take (i + 1)).map dataV := by
  obtain ⟨h1, h2, h3⟩ := hh
  rw [take_succ_get ops i h, List.map_append, List.map_append, List.map_append, encOpts_append, h1, h2, h3, ← ho]
  refine ⟨?_, rfl, rfl⟩
  simp [encOpts, oP, ovD_length]

def optsR (RD : List UInt8) (j : Nat) : List RRec := if j = 0 then [] else if j = 1 then [optrec RD] else [optrec RD, optrec []]
theorem optsR_one {M Mi RD : List UInt8} (h : Mi = M ++ encRs (optsR RD 0)) : ((Mi ++ [0, 0, 41, 16, 0, 0, 0, 0, 0]) ++ be16 RD.length) ++ RD = M ++ encRs (optsR RD 1) := by
  rw [h]; simp [optsR, encRs, encR, optrec, be16]
theorem optsR_two {M Mi RD : List UInt8} (h : Mi = M ++ encRs (optsR RD 1)) : ((Mi ++ [0, 0, 41, 16, 0, 0, 0, 0, 0]) ++ be16 ([] : List UInt8).length) ++ [] = M ++ encRs (optsR RD 2) := by
  rw [h]; simp [optsR, encRs, encR, optrec, be16]

/-- The loop over the options. -/
def ORel (B : Nat) (wA : World) (LA : List RowS) (ops : List OV) (T : Value → Value → List Value → List Value → List RowS) (rdv iv : Value) (wr : World) : Prop :=
  ∃ (io : Nat) (RDi : List UInt8) (ov dv : Value) (CO DA : List Value), io ≤ ops.length ∧ iv = .int .i64 io ∧ Hid (RDi = encOpts ((ops.take io).map oP) ∧ CO = (ops.take io).map codeV ∧ DA = (ops.take io).map dataV) ∧ RDi.length ≤ 204 * io ∧ CO.length ≤ io ∧ DA.length ≤ io ∧
    Goes B wA LA wr (rowOf 5 rdv (bvs RDi) :: T ov dv CO DA)

/-- The loop over the OPT records. -/
def PRel4 (B : Nat) (wA : World) (LA : List RowS) (ops : List OV) (nopt : Nat) (Mi : List UInt8) (T : Value → List UInt8 → Value → Value → List Value → List Value → List RowS) (mv jv : Value) (wr : World) : Prop :=
  ∃ (j : Nat) (M4 : List UInt8) (ov dv : Value) (CO DA : List Value), j ≤ nopt ∧ jv = .int .i64 j ∧ M4.length ≤ Mi.length + 52300 * j ∧ Hid (M4 = Mi ++ encRs (optsR (encOpts (ops.map oP)) j)) ∧
    Hid ((j = 0 → CO = [] ∧ DA = [] ∧ ov = .slice none 0 0 ∧ dv = .slice none 0 0) ∧ (0 < j → CO = ops.map codeV ∧ DA = ops.map dataV)) ∧ Goes B wA LA wr (T mv M4 ov dv CO DA)

end Go.Proofs.YbulkaxhmFmt
