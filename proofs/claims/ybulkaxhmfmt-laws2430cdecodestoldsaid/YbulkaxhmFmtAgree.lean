/-
  What Unpack has read agrees with what was wanted.
-/
import Derived.Test.YbulkaxhmFmtLawKit
import Derived.Test.YbulkaxhmFmtCheck
set_option linter.unusedVariables false
set_option linter.unusedSimpArgs false
namespace Go.Proofs.YbulkaxhmFmt
open Go.Extern.Stop Go.Stop Go.Extern Go.RowKit

theorem RowM.addr {w : World} {B e size n n' c : Nat} {a : Option Addr} {xs : List Value} (h : RowM w B e size (.slice a n' c) n xs) (h0 : 0 < n) : ∃ g, a = some ⟨g, 0, none⟩ ∧ ∀ j u, xs[j]? = some u → w.cell? ⟨g, j, none⟩ = some u := by
  rcases h.2 with ⟨_, hn⟩ | ⟨g, cap, cur, fr, hv, _⟩
  · omega
  · injection hv with h1 h2 h3
    subst h1
    exact ⟨g, rfl, fun j u hu => RowM.cells h (g := g) rfl j u hu⟩

theorem Own.belowAll {w w' : World} {B : Nat} {L : List RowS} (h : Own w B L) (hb : Below w.heap.size w w') : Own w' B L :=
  ⟨fun i hi => RowM.below (h.rows i hi) hb (fun k hk => (RowM.lt (h.rows i hi) k hk).2), h.apart⟩

theorem q_agree {w2 W : World} {B B1 mb : Nat} {r : Bool} {qa na ta ca : Option Addr} {qc nc tc cc np : Nat} {oV lv mv ov dv : Value} {qxs oxs lxs nvs CO DA : List Value} {M : List UInt8} {wb rb : Nat} {qs : List QV}
    (hOwn : Own W B (LM mb r (.slice qa qs.length qc) oV lv qs.length qxs np oxs lxs)) (hQN : QNames W (LM mb r (.slice qa qs.length qc) oV lv qs.length qxs np oxs lxs) (qs.map mqV) qxs)
    (gO : Own w2 B1 (LF mv M (.slice na qs.length nc) (.slice ta qs.length tc) (.slice ca qs.length cc) ov dv nvs (qs.map tyV) (qs.map clV) CO DA wb rb)) (hnv : nvs.length = qs.length)
    (HN : ∀ j (hj : j < nvs.length) (hj2 : j < qs.length), StrAt w2 (LF mv M (.slice na qs.length nc) (.slice ta qs.length tc) (.slice ca qs.length cc) ov dv nvs (qs.map tyV) (qs.map clV) CO DA wb rb) nvs[j] (cutL 1 (labsOf qs[j])))
    (hb : Below w2.heap.size w2 W) (hbd : ∀ j (hj : j < qs.length), 0 ≤ qs[j].ty ∧ qs[j].ty ≤ 65535 ∧ 0 ≤ qs[j].cl ∧ qs[j].cl ≤ 65535) :
    ∀ j, j < qs.length → QAgree W qa na ta ca j := by
  intro j hj
  have h0 : 0 < qs.length := by omega
  have rq : RowM W B 73 3 (.slice qa qs.length qc) qs.length qxs := hOwn.get 1 rfl
  obtain ⟨qg, rfl, hqg⟩ := rq.addr h0
  have rn : RowM w2 B1 28 1 (.slice na qs.length nc) nvs.length nvs := gO.get 4 rfl
  obtain ⟨ng, rfl, hng⟩ := rn.addr (by omega)
  have rt : RowM w2 B1 59 1 (.slice ta qs.length tc) (qs.map tyV).length (qs.map tyV) := gO.get 3 rfl
  obtain ⟨tg, rfl, htg⟩ := rt.addr (by simp; omega)
  have rc : RowM w2 B1 59 1 (.slice ca qs.length cc) (qs.map clV).length (qs.map clV) := gO.get 2 rfl
  obtain ⟨cg, rfl, hcg⟩ := rc.addr (by simp; omega)
  obtain ⟨v, v1, v2, v3, v4⟩ := hQN.2 j (by simp; exact hj)
  simp only [List.getElem_map] at v2 v3 v4
  obtain ⟨ao1, cap1, rfl, hs1⟩ := v2
  obtain ⟨ao2, cap2, e2, hs2⟩ := HN j (by omega) hj
  have hls : (mqV qs[j]).ls = cutL 1 (labsOf qs[j]) := rfl
  have bd := hbd j hj
  have hcnt := ls_count (mqOf_ok (labsOf qs[j]) qs[j].ty.toNat qs[j].cl.toNat (by omega) (by omega))
  refine ⟨qg, ng, tg, cg, qs[j].ty, qs[j].cl, ao1, ao2, (cutL 1 (labsOf qs[j])).length, cap1, cap2, rfl, rfl, rfl, rfl, ?_, ?_, ?_, ?_, ?_, ?_, ?_, ?_⟩
  · have : (mqOf (labsOf qs[j]) qs[j].ty.toNat qs[j].cl.toNat).ls = cutL 1 (labsOf qs[j]) := rfl
    rw [this] at hcnt
    omega
  · rw [Nat.mul_comm]; exact hqg _ _ v1
  · have := hqg _ _ v3
    rw [Nat.mul_comm] at this
    rw [this]
    have e : ((mqV qs[j]).ty : Int) = qs[j].ty := by show ((qs[j].ty.toNat : Nat) : Int) = qs[j].ty; omega
    rw [e]
  · have := hqg _ _ v4
    rw [Nat.mul_comm] at this
    rw [this]
    have e : ((mqV qs[j]).cl : Int) = qs[j].cl := by show ((qs[j].cl.toNat : Nat) : Int) = qs[j].cl; omega
    rw [e]
  · refine Below.cellK hb (hng j _ ?_)
    rw [List.getElem?_eq_getElem (by omega), e2]
  · exact Below.cellK hb (htg j _ (by simp [List.getElem?_eq_getElem hj, tyV]))
  · exact Below.cellK hb (hcg j _ (by simp [List.getElem?_eq_getElem hj, clV]))
  · intro k hk
    obtain ⟨g1, o1, x1, x2, _⟩ := hs1 k (by rw [hls]; exact hk)
    obtain ⟨g2, o2, z1, z2, _⟩ := hs2 k hk
    exact ⟨g1, o1, g2, o2, _, x1, z1, x2, Below.cellK hb z2⟩

theorem optCells_get {mg : Nat} : ∀ (ps : List (Nat × List UInt8)) (o : Nat) (cs : List Value), OptCells mg o ps cs → ∀ j (hj : j < ps.length), ∃ v, cs[2 * j]? = some (.int .u16 (ps[j].1 : Int)) ∧ cs[2 * j + 1]? = some v ∧ DatAt mg (o + (encOpts (ps.take j)).length + 4) ps[j].2.length v
  | [], _, _, _, j, hj => absurd hj (Nat.not_lt_zero _)
  | p :: t, o, cs, h, j, hj => by
    obtain ⟨v, r, rfl, hd, ht⟩ := h
    cases j with
    | zero => exact ⟨v, rfl, rfl, by simpa [encOpts] using hd⟩
    | succ j =>
      obtain ⟨u, u1, u2, u3⟩ := optCells_get t _ r ht j (by simpa using hj)
      refine ⟨u, ?_, ?_, ?_⟩
      · rw [show 2 * (j + 1) = 2 * j + 1 + 1 by omega]; simpa using u1
      · rw [show 2 * (j + 1) + 1 = 2 * j + 1 + 1 + 1 by omega]; simpa using u2
      · have e : o + 4 + p.2.length + (encOpts (t.take j)).length + 4 = o + (encOpts ((p :: t).take (j + 1))).length + 4 := by simp [encOpts, be16]; omega
        rw [e] at u3
        exact u3

theorem opt_bytes {w : World} {mg o j : Nat} {ps : List (Nat × List UInt8)} (h : BytesAt w mg o (encOpts ps)) (hj : j < ps.length) : BytesAt w mg (o + (encOpts (ps.take j)).length + 4) ps[j].2 := by
  rw [enc_split ps j, enc_drop hj] at h
  have := h.right.right.right
  rw [be16_length, be16_length] at this
  have e : o + (encOpts (ps.take j)).length + 2 + 2 = o + (encOpts (ps.take j)).length + 4 := by omega
  rw [e] at this
  exact this.left

theorem ints_bytes {w : World} {o : OV} (h : IntsAt w .u8 o.dao o.data) (hz : ∀ z ∈ o.data, 0 ≤ z ∧ z ≤ 255) : BytesIn w o.dao (ovD o) := by
  cases hd : o.dao with
  | none =>
    refine .inl ⟨rfl, ?_⟩
    apply List.eq_nil_of_length_eq_zero
    rw [ovD_length]
    rcases Nat.eq_zero_or_pos o.data.length with h0 | h0
    · omega
    · obtain ⟨b, off, e, _⟩ := h 0 h0
      rw [hd] at e
      cases e
  | some ad =>
    refine .inr ⟨ad, rfl, fun j hj => ?_⟩
    have hj' : j < o.data.length := by rw [ovD_length] at hj; omega
    obtain ⟨b, off, e, _, hc⟩ := h j hj'
    rw [hd] at e
    injection e with e
    subst e
    have hadd : (⟨b, off, none⟩ : Addr).add j = ⟨b, off + j, none⟩ := by unfold Addr.add; split <;> simp_all
    rw [hadd, hc]
    have hzj := hz o.data[j] (List.getElem_mem hj')
    have : (ovD o)[j] = UInt8.ofNat o.data[j].toNat := by simp [ovD]
    rw [this]
    simp
    omega

theorem o_agree {w1 w2 W : World} {B B1 mb mg o : Nat} {r : Bool} {oa ka da : Option Addr} {oc kc dc nq : Nat} {qv lv mv nv tv cv : Value} {qxs oxs lxs nvs TY CL : List Value} {M : List UInt8} {wb rb : Nat} {ops : List OV} {pao : Option Addr}
    (hOwn : Own W B (LM mb r qv (.slice oa ops.length oc) lv nq qxs ops.length oxs lxs)) (hby : BytesAt W mg o (encOpts (ops.map oP))) (hoc : OptCells mg o (ops.map oP) oxs)
    (gO : Own w2 B1 (LF mv M nv tv cv (.slice ka ops.length kc) (.slice da ops.length dc) nvs TY CL (ops.map codeV) (ops.map dataV) wb rb)) (hp : OsAt w1 pao ops) (hb1 : Below w1.heap.size w1 W) (hb : Below w2.heap.size w2 W) :
    ∀ j, j < ops.length → OAgree W oa ka da j := by
  intro j hj
  have h0 : 0 < ops.length := by omega
  have ro : RowM W B 78 2 (.slice oa ops.length oc) ops.length oxs := hOwn.get 2 rfl
  obtain ⟨og, rfl, hog⟩ := ro.addr h0
  have rk : RowM w2 B1 59 1 (.slice ka ops.length kc) (ops.map codeV).length (ops.map codeV) := gO.get 1 rfl
  obtain ⟨kg, rfl, hkg⟩ := rk.addr (by simp; omega)
  have rd : RowM w2 B1 23 1 (.slice da ops.length dc) (ops.map dataV).length (ops.map dataV) := gO.get 0 rfl
  obtain ⟨dg, rfl, hdg⟩ := rd.addr (by simp; omega)
  have hj' : j < (ops.map oP).length := by simp; exact hj
  obtain ⟨v, v1, v2, v3⟩ := optCells_get _ _ _ hoc j hj'
  have hbj := opt_bytes hby hj'
  simp only [List.getElem_map] at v1 v2 v3 hbj
  obtain ⟨o', c', rfl, ho'⟩ := v3
  obtain ⟨b, off, _, _, _, _, i1, i2, i3, i4, i5, i6⟩ := hp j hj
  have hle := ovD_le ops[j]
  refine ⟨og, kg, dg, ops[j].code, some ⟨mg, o', none⟩, ops[j].dao, (ovD ops[j]).length, c', ops[j].dcap, ovD ops[j], rfl, rfl, rfl, rfl, by omega, ?_, ?_, ?_, ?_, ?_, ?_⟩
  · have := hog _ _ v1
    rw [Nat.mul_comm] at this
    rw [this]
    have e : (((oP ops[j]).1 : Nat) : Int) = ops[j].code := by show ((ops[j].code.toNat : Nat) : Int) = ops[j].code; omega
    rw [e]
  · have := hog _ _ v2
    rw [Nat.mul_comm] at this
    exact this
  · exact Below.cellK hb (hkg j _ (by simp [List.getElem?_eq_getElem hj, codeV]))
  · exact Below.cellK hb (hdg j _ (by simp [List.getElem?_eq_getElem hj, dataV, ovD_length]))
  · refine .inr ⟨⟨mg, o', none⟩, rfl, fun k hk => ?_⟩
    have hadd : (⟨mg, o', none⟩ : Addr).add k = ⟨mg, o' + k, none⟩ := by unfold Addr.add; split <;> simp_all
    rw [hadd, ho' (by show 0 < (ovD ops[j]).length; omega)]
    exact hbj k hk
  · exact (ints_bytes i1 i4).below hb1

end Go.Proofs.YbulkaxhmFmt
