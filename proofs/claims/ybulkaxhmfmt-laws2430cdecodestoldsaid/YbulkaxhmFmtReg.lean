/-
  A region that draws its order, walked in one order: what only reads is taken first, under a condition S on the world that holds UP TO ONE LAST OPERATION 'k' (a store), which waits for all that is taken so.
-/
import Derived.Test.YbulkaxhmFmtBuildKit
import Derived.OrdersHeld
import Derived.Deep.RegionWith
set_option linter.unusedVariables false
set_option linter.unusedSimpArgs false
namespace Go.Proofs.YbulkaxhmFmt
open Go.RowKit

section
variable {P : Program} {ops : Array Oper} {Q : Exit → Act → World → Prop} {md : Region.Mode} {S S0 : World → Prop} {ks : List Nat}

/-- Whatever order is picked; every operation keeps S0; every operation but those of 'ks' keeps S. -/
def wpTill (P : Program) (md : Region.Mode) (ops : Array Oper) (Q : Exit → Act → World → Prop) (S S0 : World → Prop) (ks : List Nat) : Nat → Array Bool → Act → World → Prop
  | 0, listed, a, w => Region.ready md ops listed = [] ∧ Q .normal a w
  | fuel + 1, listed, a, w =>
    (Region.ready md ops listed = [] → Q .normal a w) ∧
    ∀ i ∈ Region.ready md ops listed, wpOp P ops Q i (fun a' w' => ((i ∈ ks ∨ (S w → S w')) ∧ (S0 w → S0 w')) ∧ wpTill P md ops Q S S0 ks fuel (listed.setIfInBounds i true) a' w') a w

theorem wpAny_of_till : ∀ (fuel : Nat) (listed : Array Bool) (a : Act) (w : World), wpTill P md ops Q S S0 ks fuel listed a w → wpAny P md ops Q fuel listed a w
  | 0, _, _, _, h => h
  | fuel + 1, _, _, _, h => ⟨h.1, fun i hi => wpOp_mono (fun a' w' h' => wpAny_of_till fuel _ a' w' h'.2) (h.2 i hi)⟩

theorem wp_region_till {id : Nat} {a : Act} {w : World} (hm : P.follows .mixedOrders = true) (S S0 : World → Prop) (ks : List Nat) (n : Nat) (hn : ops.size = n)
    (h : wpTill P .any ops Q S S0 ks n (Array.replicate n false) a w.drew) : (Code.region id ops true).wp P Q a w :=
  wp_region_any hm (by rw [hn]; exact wpAny_of_till _ _ _ _ h)

/-- Does operation 'k' wait for 'i'? -/
def waits (md : Region.Mode) (ops : Array Oper) (k i : Nat) : Bool := match ops[k]? with | some o => o.after.any (fun e => Region.binds md e && e.on == i) | none => false

/-- THE LAW, for S and S0 at once: 'T' is a condition that every operation keeps that may come ahead of 'i'. -/
theorem wpTill_law {T : World → Prop} {i : Nat} {oi : Oper} {v : Value} (hi : ops[i]? = some oi) (hsel : ∀ (j : Nat) (o : Oper) cs b, ops[j]? = some o → o.op ≠ .select cs b)
    (hQ : ∀ c a w, Q (.panic c) (a.put oi.dst v) w → Q (.panic c) a w)
    (hT : ∀ j w w', waits md ops j i = false → ((j ∈ ks ∨ (S w → S w')) ∧ (S0 w → S0 w')) → T w → T w') :
    ∀ (fuel : Nat) (listed : Array Bool) (a : Act) (w : World),
      (∀ j oj, ops[j]? = some oj → j ≠ i → listed.getD j true = false → (∀ e ∈ oj.after, Region.binds md e = true → e.on ≠ i) → oi.apart ops oj = true) →
      i ∈ Region.ready md ops listed → YieldsIf P ops T oi v a → T w →
      wpTill P md ops Q S S0 ks fuel (listed.setIfInBounds i true) (a.put oi.dst v) w → wpTill P md ops Q S S0 ks (fuel + 1) listed a w := by
  intro fuel
  induction fuel with
  | zero =>
    intro listed a w _ hr hy hS H
    refine ⟨fun h => (by rw [h] at hr; cases hr), fun j hj => ?_⟩
    by_cases hji : j = i
    · subst hji; exact hy.wpOp hi hS ⟨⟨.inr id, id⟩, H⟩
    · have := ready_mono hj hji
      rw [H.1] at this
      cases this
  | succ fuel ih =>
    intro listed a w hfree hr hy hS H
    refine ⟨fun h => (by rw [h] at hr; cases hr), fun j hj => ?_⟩
    by_cases hji : j = i
    · subst hji; exact hy.wpOp hi hS ⟨⟨.inr id, id⟩, H⟩
    · have h1 := H.2 j (ready_mono hj hji)
      obtain ⟨hjun, oj, hoj, hall⟩ := mem_ready.1 hj
      have hnot : ∀ e ∈ oj.after, Region.binds md e = true → e.on ≠ i := fun e he hb heq => by
        have h1 := hall e he hb
        have h0 := (mem_ready.1 hr).1
        rw [heq] at h1
        rcases Nat.lt_or_ge i listed.size with h' | h'
        · simp [h'] at h0 h1; rw [h0] at h1; cases h1
        · simp [Array.getElem?_eq_none h'] at h1
      have hw : waits md ops j i = false := by
        cases hk : waits md ops j i with
        | false => rfl
        | true =>
          unfold waits at hk
          rw [hoj] at hk
          simp only [Array.any_eq_true'] at hk
          obtain ⟨e, he, hb⟩ := hk
          simp only [Bool.and_eq_true, beq_iff_eq] at hb
          exact absurd hb.2 (hnot e he hb.1)
      have h2 := wpOp_putIf hoj (hfree j oj hoj hji hjun hnot) (fun cs b => hsel i oi cs b hi) (fun cs b => hsel j oj cs b hoj) hQ hy h1
      have hfree' : ∀ k' ok, ops[k']? = some ok → k' ≠ i → (listed.setIfInBounds j true).getD k' true = false →
          (∀ e ∈ ok.after, Region.binds md e = true → e.on ≠ i) → oi.apart ops ok = true := fun k' ok hk' hki hun hno => by
        refine hfree k' ok hk' hki ?_ hno
        by_cases hjk' : j = k'
        · subst hjk'; exact hjun
        · rw [getD_set_ne true hjk'] at hun; exact hun
      refine wpOp_mono (fun a' w' h3 => ?_) h2
      refine ⟨h3.2.1, ih (listed.setIfInBounds j true) a' w' hfree' (ready_mono hr (Ne.symm hji)) h3.1 (hT j w w' hw h3.2.1 hS) ?_⟩
      rw [Array.setIfInBounds_comm _ _ hji]
      exact h3.2.2

/-- Take number 'i' first, under S: all of 'ks' wait for it. -/
theorem till_take (i : Nat) (d : Option Tmp) {oi : Oper} {v : Value} {fuel : Nat} {listed : Array Bool} {a : Act} {w : World} (hi : ops[i]? = some oi) (hd : oi.dst = d)
    (hs : Region.noSelect ops = true) (hf : Region.free md ops listed i = true) (hr : (Region.ready md ops listed).contains i = true) (hk : ks.all (fun k => waits md ops k i) = true)
    (hQ : ∀ c a w, Q (.panic c) (a.put oi.dst v) w → Q (.panic c) a w) (hy : YieldsIf P ops S oi v a) (hS : S w)
    (h : wpTill P md ops Q S S0 ks fuel (listed.setIfInBounds i true) (a.put d v) w) : wpTill P md ops Q S S0 ks (fuel + 1) listed a w := by
  subst hd
  refine wpTill_law hi (Region.noSelect_spec hs) hQ (fun j w w' hw hh hS => ?_) fuel listed a w (Region.free_spec hi hf) (by simpa using hr) hy hS h
  rcases hh.1 with hj | hj
  · have := List.all_eq_true.1 hk j hj
    rw [hw] at this
    cases this
  · exact hj hS

/-- Take number 'i' first, under S0. -/
theorem till_take0 (i : Nat) (d : Option Tmp) {oi : Oper} {v : Value} {fuel : Nat} {listed : Array Bool} {a : Act} {w : World} (hi : ops[i]? = some oi) (hd : oi.dst = d)
    (hs : Region.noSelect ops = true) (hf : Region.free md ops listed i = true) (hr : (Region.ready md ops listed).contains i = true)
    (hQ : ∀ c a w, Q (.panic c) (a.put oi.dst v) w → Q (.panic c) a w) (hy : YieldsIf P ops S0 oi v a) (hS : S0 w)
    (h : wpTill P md ops Q S S0 ks fuel (listed.setIfInBounds i true) (a.put d v) w) : wpTill P md ops Q S S0 ks (fuel + 1) listed a w := by
  subst hd
  exact wpTill_law hi (Region.noSelect_spec hs) hQ (fun j w w' hw hh hS => hh.2 hS) fuel listed a w (Region.free_spec hi hf) (by simpa using hr) hy hS h

/-- One operation alone may come up. -/
theorem till_one {i : Nat} {o : Oper} {fuel : Nat} {listed : Array Bool} {a : Act} {w : World} (hr : Region.ready md ops listed = [i]) (ho : ops[i]? = some o) (hg : o.guard = none)
    (h : ∀ K : Act → World → Prop, (∀ a' w', (i ∈ ks ∨ (S w → S w')) → (S0 w → S0 w') → wpTill P md ops Q S S0 ks fuel (listed.setIfInBounds i true) a' w' → K a' w') → Oper.wp P o a w K Q) : wpTill P md ops Q S S0 ks (fuel + 1) listed a w := by
  refine ⟨fun h0 => (by rw [h0] at hr; cases hr), fun j hj => ?_⟩
  rw [hr] at hj
  obtain rfl : j = i := by simpa using hj
  unfold wpOp
  rw [ho]
  have hw : Region.wanted o (yielded ops a.tmps) = true := by simp [Region.wanted, hg]
  simp only [hw, if_true]
  exact .inl (h _ fun a' w' h1 h1' h2 => ⟨⟨h1, h1'⟩, h2⟩)

theorem till_done {listed : Array Bool} {a : Act} {w : World} (hr : Region.ready md ops listed = []) (h : Q .normal a w) : ∀ fuel, wpTill P md ops Q S S0 ks fuel listed a w
  | 0 => ⟨hr, h⟩
  | _ + 1 => ⟨fun _ => h, by rw [hr]; simp⟩

/-- Append, as one operation. -/
theorem wp_append_rowK (w : World) {o : Oper} {a : Act} {K : Act → World → Prop} (hgd : o.guard = none) (s y : Operand) (t tx : TypeId)
    (ho : o.op = .call { callee := .builtin .append, args := #[s, y], argTypes := #[t, tx] })
    (base : Nat) (e : TypeId) (i : TypeInfo) (z : Value) (size bytes : Nat) (ht : P.underlying t = some (.slice e)) (hi : P.info? e = some i) (hz : i.zero = some z)
    (hsize : i.size = size) (hby : i.bytes = bytes) (hzs : z.cells.size = size)
    (v : Value) (n : Nat) (xs : List Value) (hsv : a.eval s = v) (hown : RowM w base e size v n xs)
    (x : Value) (m : Nat) (news : List Value) (hx : a.eval y = x) (hs : Src P size tx x m news w)
    (h63 : n + m ≤ maxLen) (hbytes : (n + m) * bytes ≤ 140737488355328) (hbase : base ≤ w.heap.size)
    (h : ∀ v' w', RowM w' base e size v' (n + m) (xs ++ news) → w.grownBy w' v.ownBlock → (v'.ownBlock = v.ownBlock ∨ v'.ownBlock = some w.heap.size) → KeptUpTo w w' v.ownBlock (n * size) → (0 < m → v'.ownBlock ≠ none) → K (a.put o.dst v') w') :
    Oper.wp P o a w K Q := by
  obtain ⟨v', w', hr, h2, h3, h4, h5, h6⟩ := run_append_rowK (P := P) w base t tx o.type e i z size bytes ht hi hz hsize hby hzs v n xs hown x m news hs h63 hbytes hbase
  unfold Oper.wp execOp
  simp only [ho, resolve, invoke, builtin, Sem.run_bind, Sem.run_pure, Result.andThen_ok, List.map_toArray, List.map_cons, List.map_nil, hsv, hx, hr]
  exact h v' w' h2 h3 h4 h5 h6
end

/-- The message's rows. -/
def LM (mb : Nat) (r : Bool) (qv ov lv : Value) (nq : Nat) (qxs : List Value) (no : Nat) (oxs lxs : List Value) : List RowS :=
  [box 48 mb [.bool r, qv, ov, lv], ⟨73, 3, qv, nq, qxs⟩, ⟨78, 2, ov, no, oxs⟩, rowOf 9 lv lxs]

theorem safe_box {L : List RowS} {i e g : Nat} {xs : List Value} (hr : L[i]? = some (box e g xs)) (he : e ≠ 9) {a : Addr} (hs : Safe L a) : a.block ≠ g := by
  intro h
  obtain ⟨hi, hri⟩ := List.getElem?_eq_some_iff.1 hr
  have := hs i hi (by rw [hri, h]; rfl)
  rw [hri] at this
  exact he this.1

end Go.Proofs.YbulkaxhmFmt
