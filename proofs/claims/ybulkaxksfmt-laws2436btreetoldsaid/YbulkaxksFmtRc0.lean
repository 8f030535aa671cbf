/-
  newReach: behind its first statements.
-/
import Derived.Test.YbulkaxksFmtSl
set_option linter.unusedVariables false
set_option linter.unusedSimpArgs false
namespace Go.Proofs.YbulkaxksFmt
open Go.RowKit

theorem i64w (n : Int) : IntKind.i64.wrap n = wrap64 n := by unfold wrap64; exact IntKind.wrap_i64 n
def findSeq (k : Nat) : Code → Option Code
  | .seq (.region id o d) b => if id = k then some (.seq (.region id o d) b) else findSeq k b
  | .seq a b => match findSeq k a with
    | some c => some c
    | none => findSeq k b
  | .block _ c => findSeq k c
  | .loop c => findSeq k c
  | .scope c => findSeq k c
  | .cond _ a b => match findSeq k a with
    | some c => some c
    | none => findSeq k b
  | _ => none
noncomputable def code16_3 : Code := (Ybaf.f16.body.bind (findSeq 3)).getD .skip

section
variable {P : Program} {ops : Array Oper} {Q : Exit → Act → World → Prop} {md : Region.Mode} {S S0 : World → Prop} {ks : List Nat}
theorem wp_make_full (w : World) {o : Oper} {a : Act} {K : Act → World → Prop} (l c : Operand) (t : TypeId) (d : Option Tmp) (hop : o.op = Op.makeSlice t l c) (hd : o.dst = d)
    (base : Nat) (e : TypeId) (i : TypeInfo) (z : Value) (size : Nat) (h1 : P.underlying t = some (.slice e)) (h2 : P.info? e = some i) (h3 : i.zero = some z) (h4 : i.size = size)
    (n : Nat) (hl : a.eval l = .int .i64 (n : Int)) (hc : a.eval c = .int .i64 (n : Int)) (b2 : i.bytes * n ≤ 281474976710656) (b3 : n ≤ maxLen) (b4 : base ≤ w.heap.size)
    (hK : ∀ w', RowM w' base e size (.slice (some ⟨w.heap.size, 0, none⟩) n n) n (madeCells z.cells (n * size)).toList → w.grownBy w' none → K (a.put d (.slice (some ⟨w.heap.size, 0, none⟩) n n)) w') :
    Oper.wp P o a w K Q := by
  subst hd
  obtain ⟨w', hrun, r1, r2⟩ := run_make_full (P := P) w base t e i z size h1 h2 h3 h4 .i64 .i64 n b2 b3 b4
  unfold Oper.wp
  simp [execOp, hop, hl, hc, hrun, Result.andThen]
  exact hK w' (RowM.of_owns r1) r2
/-- Whichever may come up. -/
theorem till_all {rs : List Nat} {fuel : Nat} {listed : Array Bool} {a : Act} {w : World} (hr : Region.ready md ops listed = rs) (hne : rs ≠ [])
    (h : ∀ i ∈ rs, ∃ o, ops[i]? = some o ∧ o.guard = none ∧ ∀ K : Act → World → Prop, (∀ a' w', (i ∈ ks ∨ (S w → S w')) → (S0 w → S0 w') → wpTill P md ops Q S S0 ks fuel (listed.setIfInBounds i true) a' w' → K a' w') → Oper.wp P o a w K Q) : wpTill P md ops Q S S0 ks (fuel + 1) listed a w := by
  refine ⟨fun h0 => absurd (hr.symm.trans h0) hne, fun k hk => ?_⟩
  rw [hr] at hk
  obtain ⟨o, ho, hg, hh⟩ := h k hk
  unfold wpOp
  rw [ho]
  have hw : Region.wanted o (yielded ops a.tmps) = true := by simp [Region.wanted, hg]
  simp only [hw, if_true]
  exact .inl (hh _ fun a' w' h1 h1' h2 => ⟨⟨h1, h1'⟩, h2⟩)
end


theorem Below.asGrown {w w' : World} (h : Below w.heap.size w w') : w.grownBy w' none := ⟨h.os, h.tape, h.output, h.size, fun k hk _ => h.block k hk⟩
theorem Own.lts {w : World} {B : Nat} {L : List RowS} (h : Own w B L) : ∀ i (hi : i < L.length) k, (L[i]).v.ownBlock = some k → k < w.heap.size := fun i hi k hk => (RowM.lt (h.rows i hi) k hk).2

/-- A list of numbers behind a slice, in blocks from 'lo' on, that no step on the rows of L writes. -/
def NatsL (lo : Nat) (w : World) (L : List RowS) (a : Option Addr) (l : List Nat) : Prop := ∀ j (hj : j < l.length), ∃ b, a = some ⟨b, 0, none⟩ ∧ lo ≤ b ∧ w.cell? ⟨b, j, none⟩ = some (iv l[j]) ∧ Safe L ⟨b, j, none⟩
def NatssL (lo : Nat) (w : World) (L : List RowS) (a : Option Addr) (ls : List (List Nat)) : Prop := ∀ j (hj : j < ls.length), ∃ b ao cap, a = some ⟨b, 0, none⟩ ∧ lo ≤ b ∧ w.cell? ⟨b, j, none⟩ = some (.slice ao ls[j].length cap) ∧ Safe L ⟨b, j, none⟩ ∧ ls[j].length ≤ cap ∧ cap ≤ maxLen ∧ (ao = none → cap = 0) ∧ NatsL lo w L ao ls[j]
theorem NatsL.goes {B lo : Nat} {w w' : World} {L L' : List RowS} {a : Option Addr} {l : List Nat} (h : NatsL lo w L a l) (hg : Goes B w L w' L') : NatsL lo w' L' a l := fun j hj => by
  obtain ⟨b, h1, h0, h2, h3⟩ := h j hj
  obtain ⟨x, y⟩ := hg.safe _ _ h2 h3
  exact ⟨b, h1, h0, x, y⟩
theorem NatssL.goes {B lo : Nat} {w w' : World} {L L' : List RowS} {a : Option Addr} {l : List (List Nat)} (h : NatssL lo w L a l) (hg : Goes B w L w' L') : NatssL lo w' L' a l := fun j hj => by
  obtain ⟨b, ao, cap, h1, hl, h2, h0, h3, h4, h5, h6⟩ := h j hj
  obtain ⟨x, y⟩ := hg.safe _ _ h2 h0
  exact ⟨b, ao, cap, h1, hl, x, y, h3, h4, h5, h6.goes hg⟩
theorem NatsL.of_lo {w : World} {L : List RowS} {lo lo' : Nat} {a : Option Addr} {l : List Nat} (h : NatsAt w lo a l) (hlo : lo' ≤ lo) (hL : ∀ i (hi : i < L.length) k, (L[i]).v.ownBlock = some k → k < lo) : NatsL lo' w L a l := fun j hj => by
  obtain ⟨b, h1, h0, h2⟩ := h j hj
  exact ⟨b, h1, by omega, h2, safe_lo hL h0⟩
theorem NatssL.of_lo {w : World} {L : List RowS} {lo lo' : Nat} {a : Option Addr} {l : List (List Nat)} (h : NatssAt w lo a l) (hlo : lo' ≤ lo) (hL : ∀ i (hi : i < L.length) k, (L[i]).v.ownBlock = some k → k < lo) : NatssL lo' w L a l := fun j hj => by
  obtain ⟨b, ao, cap, h1, h0, h2, h3, h4, h5, h6⟩ := h j hj
  exact ⟨b, ao, cap, h1, by omega, h2, safe_lo hL h0, h3, h4, h5, .of_lo h6 hlo hL⟩
theorem NatsL.cons {lo : Nat} {w w' : World} {L : List RowS} {r : RowS} {a : Option Addr} {l : List Nat} (h : NatsL lo w L a l) (hg : w.grownBy w' none) (hr : ∀ k, r.v.ownBlock = some k → w.heap.size ≤ k) : NatsL lo w' (r :: L) a l := fun j hj => by
  obtain ⟨b, h1, hl, h2, h3⟩ := h j hj
  refine ⟨b, h1, hl, hg.cell h2 (by simp), fun i hi he => ?_⟩
  have hlt := World.block_lt_of_cell? w _ h2
  cases i with
  | zero => have := hr b he; exact absurd hlt (by show ¬ b < _; omega)
  | succ i => exact h3 i (by simpa using hi) he
theorem NatssL.cons {lo : Nat} {w w' : World} {L : List RowS} {r : RowS} {a : Option Addr} {l : List (List Nat)} (h : NatssL lo w L a l) (hg : w.grownBy w' none) (hr : ∀ k, r.v.ownBlock = some k → w.heap.size ≤ k) : NatssL lo w' (r :: L) a l := fun j hj => by
  obtain ⟨b, ao, cap, h1, hl, h2, h0, h3, h4, h5, h6⟩ := h j hj
  refine ⟨b, ao, cap, h1, hl, hg.cell h2 (by simp), fun i hi he => ?_, h3, h4, h5, h6.cons hg hr⟩
  have hlt := World.block_lt_of_cell? w _ h2
  cases i with
  | zero => have := hr b he; exact absurd hlt (by show ¬ b < _; omega)
  | succ i => exact h0 i (by simpa using hi) he
theorem NatsL.at {lo : Nat} {w : World} {L : List RowS} {a : Option Addr} {l : List Nat} (h : NatsL lo w L a l) : NatsAt w lo a l := fun j hj => by
  obtain ⟨b, h1, hl, h2, h3⟩ := h j hj
  exact ⟨b, h1, hl, h2⟩
theorem NatssL.at {lo : Nat} {w : World} {L : List RowS} {a : Option Addr} {l : List (List Nat)} (h : NatssL lo w L a l) : NatssAt w lo a l := fun j hj => by
  obtain ⟨b, ao, cap, h1, hl, h2, h0, h3, h4, h5, h6⟩ := h j hj
  exact ⟨b, ao, cap, h1, hl, h2, h3, h4, h5, h6.at⟩

/-- The rows of newReach. -/
def RLs (rb : Nat) (sa sb sl : Value) (g nb hb : Nat) (vs : List Value) (zs : List Int) : List RowS :=
  [box 66 rb [sa, sb, sl, .slice (some ⟨nb, 0, none⟩) g g, .slice (some ⟨hb, 0, none⟩) g g], rowOf 3 (.slice (some ⟨hb, 0, none⟩) g g) (zs.map (Value.int .i64)), rowOf 27 (.slice (some ⟨nb, 0, none⟩) g g) vs]

/-- What a reach holds. -/
def ReachAt (w : World) (lo rb : Nat) (ps : List Nat) (D : Nat → Nat) : Prop :=
  ∃ (a0 : Option Addr) (c0 : Nat) (a1 : Option Addr) (c1 ob oc nb : Nat) (ls ns : List (List Nat)),
    lo ≤ rb ∧ w.cell? ⟨rb, 0, none⟩ = some (.slice a0 ps.sum c0) ∧ NatsAt w lo a0 (groupL 0 ps) ∧ w.cell? ⟨rb, 1, none⟩ = some (.slice a1 (ps.length + 1) c1) ∧ NatsAt w lo a1 (startsL 0 ps ++ [ps.sum]) ∧
    w.cell? ⟨rb, 2, none⟩ = some (.slice (some ⟨ob, 0, none⟩) ps.length oc) ∧ NbOk ps.length D ls ∧ NatssAt w lo (some ⟨ob, 0, none⟩) ls ∧
    w.cell? ⟨rb, 3, none⟩ = some (.slice (some ⟨nb, 0, none⟩) ps.length ps.length) ∧ NbOk ps.length (fun a => D a + 1) ns ∧ NatssAt w lo (some ⟨nb, 0, none⟩) ns

/-- The near lists that are done. -/
def NearS (B : Nat) (w : World) (L : List RowS) (g k : Nat) (D : Nat → Nat) (vs : List Value) : Prop :=
  ∃ ns : List (List Nat), ns.length = k ∧ (∀ l ∈ ns, ∀ x ∈ l, x < g) ∧ ∀ a (h : a < ns.length), ns[a].length = D a + 1 ∧ ∃ b cap, vs[a]? = some (.slice (some ⟨b, 0, none⟩) ns[a].length cap) ∧ ns[a].length ≤ cap ∧ cap ≤ maxLen ∧ NatsL B w L (some ⟨b, 0, none⟩) ns[a]

def RcRel (B : Nat) (w : World) (rb g nb hb : Nat) (sa sb sl : Value) (D : Nat → Nat) (k : Nat) (a0 a1 : Option Addr) (ob : Nat) (gl sl0 : List Nat) (ls : List (List Nat)) (wr : World) : Prop :=
  ∃ (vs : List Value) (zs : List Int), vs.length = g ∧ zs.length = g ∧ Goes B w [] wr (RLs rb sa sb sl g nb hb vs zs) ∧ Hid (NatsL B wr (RLs rb sa sb sl g nb hb vs zs) a0 gl) ∧ Hid (NatsL B wr (RLs rb sa sb sl g nb hb vs zs) a1 sl0) ∧ Hid (NatssL B wr (RLs rb sa sb sl g nb hb vs zs) (some ⟨ob, 0, none⟩) ls) ∧ Hid (NearS B wr (RLs rb sa sb sl g nb hb vs zs) g k D vs)

theorem rc_near {B : Nat} {w wi w5 : World} {rb g nb hb k ob b cap : Nat} {sa sb sl : Value} {D : Nat → Nat} {a0 a1 : Option Addr} {gl sl0 nl : List Nat} {ls : List (List Nat)} {vs : List Value} {zs : List Int} (hvl : vs.length = g) (hzl : zs.length = g) (hk : k < g)
    (gW : Goes B w [] wi (RLs rb sa sb sl g nb hb vs zs)) (M0 : Hid (NatsL B wi (RLs rb sa sb sl g nb hb vs zs) a0 gl)) (M1 : Hid (NatsL B wi (RLs rb sa sb sl g nb hb vs zs) a1 sl0)) (ML : Hid (NatssL B wi (RLs rb sa sb sl g nb hb vs zs) (some ⟨ob, 0, none⟩) ls)) (MN : Hid (NearS B wi (RLs rb sa sb sl g nb hb vs zs) g k D vs))
    (hbl : Below wi.heap.size wi w5) (hn : NatsAt w5 wi.heap.size (some ⟨b, 0, none⟩) nl) (hnl : nl.length = D k + 1) (hx : ∀ x ∈ nl, x < g) (hc : nl.length ≤ cap) (hcm : cap ≤ maxLen) :
    RcRel B w rb g nb hb sa sb sl D (k + 1) a0 a1 ob gl sl0 ls (w5.setCell ⟨nb, k, none⟩ (.slice (some ⟨b, 0, none⟩) nl.length cap)) := by
  have G1 := (Goes.refl gW.own gW.size).grown (Below.asGrown hbl)
  have G2 := (Goes.refl G1.own G1.size).setAt 2 (e := 27) (g := nb) (n := g) (cap := g) (xs := vs) rfl (by decide) k (.slice (some ⟨b, 0, none⟩) nl.length cap)
  have G3 := G1.trans G2
  refine ⟨vs.set k (.slice (some ⟨b, 0, none⟩) nl.length cap), zs, by simp [hvl], hzl, gW.trans G3, M0.out.goes G3, M1.out.goes G3, ML.out.goes G3, ?_⟩
  obtain ⟨ns, h1, h2, h3⟩ := MN.out
  refine ⟨ns ++ [nl], by simp [h1], fun l hl => ?_, fun a h => ?_⟩
  · rcases List.mem_append.1 hl with h | h
    · exact h2 l h
    · simp at h; subst h; exact hx
  · rcases Nat.lt_or_ge a ns.length with ha | ha
    · obtain ⟨e1, b', cap', e2, e3, e4, e5⟩ := h3 a ha
      rw [List.getElem_append_left ha]
      refine ⟨e1, b', cap', ?_, e3, e4, e5.goes G3⟩
      rw [List.getElem?_set_ne (by omega)]
      exact e2
    · have hae : a = k := by simp at h; omega
      subst hae
      have : (ns ++ [nl])[a]'h = nl := by rw [List.getElem_append_right ha]; simp [h1]
      rw [this]
      exact ⟨hnl, b, cap, by rw [List.getElem?_set_self (by omega)], hc, hcm, (NatsL.of_lo hn gW.size gW.own.lts).goes G2⟩

/-- The inner loop. -/
def RcIn (B : Nat) (w : World) (rb g nb hb : Nat) (sa sb sl : Value) (D : Nat → Nat) (k : Nat) (a0 a1 : Option Addr) (ob : Nat) (gl sl0 : List Nat) (ls : List (List Nat)) (vs : List Value) (b : Nat) (nl : List Nat) (wr : World) : Prop :=
  ∃ (zs : List Int), zs.length = g ∧ Goes B w [] wr (RLs rb sa sb sl g nb hb vs zs) ∧ Hid (NatsL B wr (RLs rb sa sb sl g nb hb vs zs) a0 gl) ∧ Hid (NatsL B wr (RLs rb sa sb sl g nb hb vs zs) a1 sl0) ∧ Hid (NatssL B wr (RLs rb sa sb sl g nb hb vs zs) (some ⟨ob, 0, none⟩) ls) ∧ Hid (NearS B wr (RLs rb sa sb sl g nb hb vs zs) g k D vs) ∧ Hid (NatsL B wr (RLs rb sa sb sl g nb hb vs zs) (some ⟨b, 0, none⟩) nl)
theorem NearS.goes {B B' : Nat} {w w' : World} {L L' : List RowS} {g k : Nat} {D : Nat → Nat} {vs : List Value} (h : NearS B' w L g k D vs) (hg : Goes B w L w' L') : NearS B' w' L' g k D vs := by
  obtain ⟨ns, h1, h2, h3⟩ := h
  refine ⟨ns, h1, h2, fun a ha => ?_⟩
  obtain ⟨e1, b', cap', e2, e3, e4, e5⟩ := h3 a ha
  exact ⟨e1, b', cap', e2, e3, e4, e5.goes hg⟩

set_option maxRecDepth 1000000 in
set_option maxHeartbeats 1000000 in
theorem reach_rest (nb rb g ob oc nb0 hb : Nat) (ps : List Nat) (all : Bool) (prs : List (Nat × Nat)) (D : Nat → Nat) (ls : List (List Nat)) (w w1 : World)
    (u1 u2 u5 u6 u7 u8 u9 u10 u11 u12 u13 u14 u15 u16 u17 u18 u19 u20 u21 u22 u23 u24 u25 u26 u27 u28 u29 u30 u31 u32 u33 u34 u35 u36 u37 u38 u39 u40 u41 u42 u43 u44 u45 u46 u47 u48 u49 u50 u51 u52 u53 u54 u55 u56 u57 u58 u59 u60 u61 u62 u63 u64 u65 u66 u67 u68 u69 u70 u71 u72 u73 u74 u75 u76 u77 u78 u79 u80 u81 u82 u83 u84 u85 u86 u87 u88 u89 u90 u91 u92 u93 u94 u95 u96 u97 u98 u99 u100 u101 u102 : Value)
    (HG : Hid (g = ps.length)) (hg4 : g ≤ 4) (hps : ps.sum ≤ 12) (HN : Hid (NetAt w nb ps all prs)) (HOK : Hid (NbOk g D ls)) (hD : Hid (∀ a, D a ≤ 12))
    (G2 : Goes w.heap.size w [] w1 (RLs rb (.slice none 0 0) (.slice none 0 0) (.slice (some ⟨ob, 0, none⟩) g oc) g nb0 hb (List.replicate g (.slice none 0 0)) (List.replicate g 0)))
    (HS2 : Hid (NatssL w.heap.size w1 (RLs rb (.slice none 0 0) (.slice none 0 0) (.slice (some ⟨ob, 0, none⟩) g oc) g nb0 hb (List.replicate g (.slice none 0 0)) (List.replicate g 0)) (some ⟨ob, 0, none⟩) ls)) :
    Code.wp Ybaf.prog code16_3 (bodyPost Ybaf.prog Ybaf.f16 (fun e w' => e = .returned (.pointer (some ⟨rb, 0, none⟩)) ∧ ReachAt w' w.heap.size rb ps D ∧ Below w.heap.size w w')) ⟨#[.pointer (some ⟨nb, 0, none⟩), u1, u2, .int .i64 (g : Int), .pointer (some ⟨rb, 0, none⟩), u5, u6, u7, u8, u9, u10, u11, u12, u13, u14, u15, u16, u17, u18, u19, u20, u21, u22, u23, u24, u25, u26, u27, u28, u29, u30, u31, u32, u33, u34, u35, u36, u37, u38, u39, u40, u41, u42, u43, u44, u45, u46, u47, u48, u49, u50, u51, u52, u53, u54, u55, u56, u57, u58, u59, u60, u61, u62, u63, u64, u65, u66, u67, u68, u69, u70, u71, u72, u73, u74, u75, u76, u77, u78, u79, u80, u81, u82, u83, u84, u85, u86, u87, u88, u89, u90, u91, u92, u93, u94, u95, u96, u97, u98, u99, u100, u101, u102], []⟩ w1 := by
  obtain ⟨i3, hi3, hz30, hz31, hz32⟩ := info_parts Ybaf.kinfo3
  have hp4 : ps.length ≤ 4 := by have := HG.out; omega
  conv => arg 2; whnf
  go_upto_region 4 with (go_at_call 21; refine (layout_any nb ps all prs w1 (HN.out.below G2.below) hp4 hps).mono ?_; rintro e w2 ⟨a0, c0, a1, c1, rfl, hn0, hn1, hbl⟩; have G3 := G2.grown (Below.asGrown hbl); have q0 := G3.own.box_cell 0 rfl 0 rfl; have q1 := G3.own.box_cell 0 rfl 1 rfl; have f0 := G3.own.box_frozen 0 rfl 0 (by simp); have f1 := G3.own.box_frozen 0 rfl 1 (by simp))
  have GR := (Goes.refl G2.own G2.size).grown (Below.asGrown hbl)
  have GT := (((Goes.refl G3.own G3.size).setBox 0 rfl (by decide) 0 (by simp) (.slice a0 ps.sum c0)).setBox 0 rfl (by decide) 1 (by simp) (.slice a1 (ps.length + 1) c1))
  have N0 : Hid (NatsL w.heap.size _ _ a0 (groupL 0 ps)) := (NatsL.of_lo hn0 G2.size G2.own.lts).goes GT
  have N1 : Hid (NatsL w.heap.size _ _ a1 (startsL 0 ps ++ [ps.sum])) := (NatsL.of_lo hn1 G2.size G2.own.lts).goes GT
  have NL : Hid (NatssL w.heap.size _ _ (some ⟨ob, 0, none⟩) ls) := (HS2.out.goes GR).goes GT
  have G4 : Goes w.heap.size w [] ((w2.setCell ⟨rb, 0, none⟩ (.slice a0 ps.sum c0)).setCell ⟨rb, 1, none⟩ (.slice a1 (ps.length + 1) c1)) (RLs rb (.slice a0 ps.sum c0) (.slice a1 (ps.length + 1) c1) (.slice (some ⟨ob, 0, none⟩) g oc) g nb0 hb (List.replicate g (.slice none 0 0)) (List.replicate g 0)) := G3.trans GT
  rw [← HG.out] at N0 N1 NL G4
  obtain ⟨SL, hSL⟩ : ∃ l, l = startsL 0 ps ++ [ps.sum] := ⟨_, rfl⟩
  have HSLl : Hid (SL.length = g + 1) := by show _ = _; rw [hSL, List.length_append, startsL_length, HG.out]; rfl
  have HSL : Hid (SL = startsL 0 ps ++ [ps.sum]) := hSL
  rw [← hSL] at N1
  rw [← HG.out]
  obtain ⟨n0, hn00⟩ : ∃ n, n = ps.sum := ⟨_, rfl⟩
  have HN0 : Hid (n0 = ps.sum) := hn00
  obtain ⟨sa, hsa⟩ : ∃ v, v = Value.slice a0 ps.sum c0 := ⟨_, rfl⟩
  have HSA : Hid (sa = Value.slice a0 ps.sum c0) := hsa
  obtain ⟨w3, hw3⟩ : ∃ W, W = (w2.setCell ⟨rb, 0, none⟩ (.slice a0 ps.sum c0)).setCell ⟨rb, 1, none⟩ (.slice a1 (g + 1) c1) := ⟨_, rfl⟩
  rw [← hw3] at N0 N1 NL G4 ⊢
  have R0 : RcRel w.heap.size w rb g nb0 hb sa (.slice a1 (g + 1) c1) (.slice (some ⟨ob, 0, none⟩) g oc) D 0 a0 a1 ob (groupL 0 ps) SL ls w3 := by
    rw [hsa]
    exact ⟨List.replicate g (.slice none 0 0), List.replicate g 0, by simp, by simp, G4, N0, N1, NL, ⟨[], rfl, (fun l hl => (by cases hl)), fun a h => absurd h (Nat.not_lt_zero _)⟩⟩
  have q2 := G4.own.box_cell 0 rfl 2 rfl
  clear N0 N1 NL G4 hw3 hsa hn00 hSL q0 q1 f0 f1 GT GR G3 hn0 hn1 hbl
  go_wp2_with fail
  go_loopw [40] (fun i wr => ∃ k : Nat, k ≤ g ∧ i = .int .i64 (k : Int) ∧ RcRel w.heap.size w rb g nb0 hb sa (.slice a1 (g + 1) c1) (.slice (some ⟨ob, 0, none⟩) g oc) D k a0 a1 ob (groupL 0 ps) SL ls wr) (fun i _ => g - (intOf i).toNat)
  case atStart => exact ⟨0, Nat.zero_le _, rfl, R0⟩
  case round =>
    obtain ⟨k, hk, rfl, gR⟩ := hrel
    by_cases hlt : k < g
    · have hki : (k : Int) < (g : Int) := by omega
      obtain ⟨vs, zs, hvl, hzl, gW, M0, M1, ML, MN⟩ := gR
      have hkl : k < ls.length := by have := HOK.out.1; omega
      obtain ⟨b', ao, acap, hb', _, c0', _, hlc, hcm, hnil, hNS⟩ := ML.out k hkl
      injection hb' with hb'
      injection hb' with hb' _ _
      subst hb'
      obtain ⟨l, hl⟩ : ∃ l, l = ls[k] := ⟨_, rfl⟩
      have hlD : l.length = D k := by rw [hl]; exact HOK.out.2.2 k hkl
      have hlx : ∀ x ∈ l, x < g := by rw [hl]; exact HOK.out.2.1 _ (List.getElem_mem hkl)
      rw [← hl] at c0' hlc hNS
      have hl12 : l.length ≤ 12 := by rw [hlD]; exact hD.out k
      have HLD : Hid (l.length = D k) := hlD
      have HLX : Hid (∀ x ∈ l, x < g) := hlx
      have HNS : Hid (NatsL w.heap.size wr (RLs rb sa (.slice a1 (g + 1) c1) (.slice (some ⟨ob, 0, none⟩) g oc) g nb0 hb vs zs) ao l) := hNS
      have HV : Hid (vs.length = g) := hvl
      have HZ : Hid (zs.length = g) := hzl
      clear hl hlD hlx hNS hvl hzl
      have q3 := gW.own.box_cell 0 rfl 3 rfl
      obtain ⟨wi, rfl⟩ : ∃ x : World, x = wr := ⟨_, rfl⟩
      go_upto_region 8 with (go_at_call 22; refine (search_any _ ao acap k l wi HNS.out.at (by omega)).mono ?_; rintro e w4 ⟨ix, bb, rfl, hix, rfl⟩)
      have GD := (Goes.refl gW.own gW.size).drew
      have gD := gW.trans GD
      have P0 : Hid (NatsL w.heap.size wi.drew (RLs rb sa (.slice a1 (g + 1) c1) (.slice (some ⟨ob, 0, none⟩) g oc) g nb0 hb vs zs) a0 (groupL 0 ps)) := M0.out.goes GD
      have P1 : Hid (NatsL w.heap.size wi.drew (RLs rb sa (.slice a1 (g + 1) c1) (.slice (some ⟨ob, 0, none⟩) g oc) g nb0 hb vs zs) a1 SL) := M1.out.goes GD
      have PL : Hid (NatssL w.heap.size wi.drew (RLs rb sa (.slice a1 (g + 1) c1) (.slice (some ⟨ob, 0, none⟩) g oc) g nb0 hb vs zs) (some ⟨ob, 0, none⟩) ls) := ML.out.goes GD
      have PN : Hid (NearS w.heap.size wi.drew (RLs rb sa (.slice a1 (g + 1) c1) (.slice (some ⟨ob, 0, none⟩) g oc) g nb0 hb vs zs) g k D vs) := MN.out.goes GD
      have PS : Hid (NatsL w.heap.size wi.drew (RLs rb sa (.slice a1 (g + 1) c1) (.slice (some ⟨ob, 0, none⟩) g oc) g nb0 hb vs zs) ao l) := HNS.out.goes GD
      have hao : Hid (ao = none → l.length = 0 ∧ acap = 0) := fun h => ⟨by have := hnil h; omega, hnil h⟩
      clear M0 M1 ML MN HNS
      go_cut [54] (fun _ wx => RcRel w.heap.size w rb g nb0 hb sa (.slice a1 (g + 1) c1) (.slice (some ⟨ob, 0, none⟩) g oc) D (k + 1) a0 a1 ob (groupL 0 ps) SL ls wx)
      case first =>
        refine wp_region_noPanic ?_
        refine wp_region_till (by kernel_rfl) (fun _ => True) (fun w' => w'.cell? ⟨rb, 3, none⟩ = some (.slice (some ⟨nb0, 0, none⟩) g g)) [12] 13 rfl ?_
        have hS0 : wi.drew.cell? ⟨rb, 3, none⟩ = some (.slice (some ⟨nb0, 0, none⟩) g g) := q3
        obtain ⟨wd, hwd⟩ : ∃ W, W = wi.drew := ⟨_, rfl⟩
        rw [← hwd] at gD hS0 P0 P1 PL PN PS ⊢
        clear hwd q3 GD gW
        refine till_take0 0 (some 51) (v := ?vr0) rfl rfl (by kernel_rfl) (by kernel_rfl) (by kernel_rfl) (fun _ _ _ h => h) (Or.inl ⟨by rfl, ?yr0⟩) hS0 ?rr0
        case yr0 => intro w' s1; go_simp; all_goals with_reducible rfl
        simp only [Act.put, List.setIfInBounds_toArray, List.set_cons_zero, List.set_cons_succ]
        refine till_take0 1 (some 52) (v := ?vr1) rfl rfl (by kernel_rfl) (by kernel_rfl) (by kernel_rfl) (fun _ _ _ h => h) (Or.inl ⟨by rfl, ?yr1⟩) hS0 ?rr1
        case yr1 => intro w' s1; go_simp; all_goals with_reducible rfl
        simp only [Act.put, List.setIfInBounds_toArray, List.set_cons_zero, List.set_cons_succ]
        refine till_take0 2 (some 53) (v := ?vr2) rfl rfl (by kernel_rfl) (by kernel_rfl) (by kernel_rfl) (fun _ _ _ h => h) (Or.inl ⟨by rfl, ?yr2⟩) hS0 ?rr2
        case yr2 => intro w' s1; go_simp; all_goals with_reducible rfl
        simp only [Act.put, List.setIfInBounds_toArray, List.set_cons_zero, List.set_cons_succ]
        refine till_take0 3 (some 54) (v := ?vr3) rfl rfl (by kernel_rfl) (by kernel_rfl) (by kernel_rfl) (fun _ _ _ h => h) (Or.inl ⟨by rfl, ?yr3⟩) hS0 ?rr3
        case yr3 => intro w' s1; go_simp; all_goals with_reducible rfl
        simp only [Act.put, List.setIfInBounds_toArray, List.set_cons_zero, List.set_cons_succ]
        refine till_take0 4 (some 55) (v := ?vr4) rfl rfl (by kernel_rfl) (by kernel_rfl) (by kernel_rfl) (fun _ _ _ h => h) (Or.inl ⟨by rfl, ?yr4⟩) hS0 ?rr4
        case yr4 => intro w' s1; go_simp; all_goals with_reducible rfl
        simp only [Act.put, List.setIfInBounds_toArray, List.set_cons_zero, List.set_cons_succ]
        refine till_take0 5 (some 56) (v := ?vr5) rfl rfl (by kernel_rfl) (by kernel_rfl) (by kernel_rfl) (fun _ _ _ h => h) (Or.inl ⟨by rfl, ?yr5⟩) hS0 ?rr5
        case yr5 => intro w' s1; go_simp; all_goals with_reducible rfl
        simp only [Act.put, List.setIfInBounds_toArray, List.set_cons_zero, List.set_cons_succ]
        refine till_take0 7 (some 58) (v := ?vr7) rfl rfl (by kernel_rfl) (by kernel_rfl) (by kernel_rfl) (fun _ _ _ h => h) (Or.inl ⟨by rfl, ?yr7⟩) hS0 ?rr7
        case yr7 => intro w' s1; go_simp; all_goals with_reducible rfl
        simp only [Act.put, List.setIfInBounds_toArray, List.set_cons_zero, List.set_cons_succ]
        refine till_take0 8 (some 59) (v := ?vr8) rfl rfl (by kernel_rfl) (by kernel_rfl) (by kernel_rfl) (fun _ _ _ h => h) (Or.inl ⟨by rfl, ?yr8⟩) hS0 ?rr8
        case yr8 => intro w' s1; go_simp; all_goals with_reducible rfl
        simp only [Act.put, List.setIfInBounds_toArray, List.set_cons_zero, List.set_cons_succ]
        refine till_all (rs := [6, 9]) (by kernel_rfl) (by simp) ?_
        intro i hi
        have hi' : i = 6 ∨ i = 9 := by simpa using hi
        clear hi
        rcases hi' with rfl | rfl
        · refine ⟨_, rfl, rfl, fun K hK => ?_⟩
          go_simp
          refine (clone_any _ ao acap l wd (PS.out.at) hao.out (by omega)).mono ?_
          rintro e w5 ⟨v, rfl, hrow, hbl5⟩
          have s5 := Below.cellK hbl5 hS0
          obtain ⟨va, vc, rfl⟩ := hrow.form
          refine hK _ _ (.inr id) (fun _ => s5) ?_
          clear hK K
          (try simp only [Act.put, List.setIfInBounds_toArray, List.set_cons_zero, List.set_cons_succ])
          refine till_one (i := 9) (by kernel_rfl) rfl rfl fun K hK => ?_
          go_simp
          refine hK _ _ (.inr id) (fun _ => cell_old s5 _) ?_
          clear hK K
          (try simp only [Act.put, List.setIfInBounds_toArray, List.set_cons_zero, List.set_cons_succ])
          obtain ⟨w6, hw6⟩ : ∃ W, W = w5.alloc (Obj.cells #[Value.int .i64 (k : Int)] 3) := ⟨_, rfl⟩
          obtain ⟨vb, hvb⟩ : ∃ x, x = w5.heap.size := ⟨_, rfl⟩
          have hv6 : w6.heap[vb]? = some (.cells #[iv k] 3 (0, 0)) := by rw [hw6, hvb]; exact heap_alloc_new w5 _
          have hr6 := hrow.alloc (.cells #[iv k] 3)
          have hlt5 := hrow.lt
          have hbd : Below wd.heap.size wd w6 := by rw [hw6]; exact hbl5.alloc hbl5.size _
          have hne : ∀ g', va = some ⟨g', 0, none⟩ → vb ≠ g' := fun g' hg' => by subst hg'; have := (hlt5 g' rfl).2; omega
          rw [show w5.alloc (.cells #[iv k] 3) = w6 from hw6.symm] at hr6
          rw [← hw6, ← hvb]
          have hBB : wd.heap.size ≤ wd.heap.size := Nat.le_refl _
          clear hw6 hvb hrow hlt5
          refine till_one (i := 10) (by kernel_rfl) rfl rfl fun K hK => ?_
          go_simp
          refine (insert_any wd.heap.size l.length vc ix vb k va l w6 hr6 hix (by omega) hbd.size hv6 hne).mono ?_
          rintro e w7 ⟨ib, icap, rfl, hic, hicm, hna, hbl7⟩
          have hb7 : Below wd.heap.size wd w7 := hbd.trans hbl7
          have G7 := gD.grown (Below.asGrown hb7)
          have s7 : w7.cell? ⟨rb, 3, none⟩ = some (.slice (some ⟨nb0, 0, none⟩) g g) := Below.cellK hb7 hS0
          have hvk : vs[k]? = some (vs[k]'(by have := HV.out; omega)) := List.getElem?_eq_getElem _
          have ck := (G7.cellAt 2 (e := 27) (g := nb0) (n := g) (cap := g) (xs := vs) rfl k hvk).1
          have fk := (G7.cellAt 2 (e := 27) (g := nb0) (n := g) (cap := g) (xs := vs) rfl k hvk).2
          have GZ := G7.setAt 2 (e := 27) (g := nb0) (n := g) (cap := g) (xs := vs) rfl (by decide) k (.slice (some ⟨ib, 0, none⟩) (l.length + 1) icap)
          have z3 := GZ.own.box_cell 0 rfl 3 rfl
          refine hK _ _ (.inr id) (fun _ => s7) ?_
          clear hK K
          (try simp only [Act.put, List.setIfInBounds_toArray, List.set_cons_zero, List.set_cons_succ])
          refine till_take0 11 (some 62) (v := ?vs11) rfl rfl (by kernel_rfl) (by kernel_rfl) (by kernel_rfl) (fun _ _ _ h => h) (Or.inl ⟨by rfl, ?ys11⟩) s7 ?rs11
          case ys11 => intro w' s1; go_simp; all_goals with_reducible rfl
          simp only [Act.put, List.setIfInBounds_toArray, List.set_cons_zero, List.set_cons_succ]
          refine till_one (i := 12) (by kernel_rfl) rfl rfl fun K hK => ?_
          go_simp
          refine hK _ _ (.inl (by simp)) (fun _ => z3) ?_
          clear hK K
          refine till_done (by kernel_rfl) ?_ _
          refine NoPanic.normal ?_
          go_wp2_with fail
          go_meet
          have eL : l.length + 1 = (insL l ix k).length := (insL_length l ix k hix).symm
          rw [eL]
          exact rc_near HV.out HZ.out hlt gD P0 P1 PL PN hb7 (hna.lower hBB) (by rw [← eL, HLD.out]) (fun x hx => by rcases insL_mem hx with h | h; exact HLX.out x h; subst h; exact hlt) (by omega) hicm
        · refine ⟨_, rfl, rfl, fun K hK => ?_⟩
          go_simp
          refine hK _ _ (.inr id) (fun _ => cell_old hS0 _) ?_
          clear hK K
          (try simp only [Act.put, List.setIfInBounds_toArray, List.set_cons_zero, List.set_cons_succ])
          obtain ⟨w5, hw5⟩ : ∃ W, W = wd.alloc (Obj.cells #[Value.int .i64 (k : Int)] 3) := ⟨_, rfl⟩
          obtain ⟨vb, hvb⟩ : ∃ x, x = wd.heap.size := ⟨_, rfl⟩
          have hv5 : w5.heap[vb]? = some (.cells #[iv k] 3 (0, 0)) := by rw [hw5, hvb]; exact heap_alloc_new wd _
          have hb5 : Below wd.heap.size wd w5 := by rw [hw5]; exact (Below.refl _ _).alloc (Nat.le_refl _) _
          have hs5 : vb < w5.heap.size := by rw [hw5, hvb]; simp
          have hBB : wd.heap.size ≤ w5.heap.size := hb5.size
          have s5 := Below.cellK hb5 hS0
          rw [← hw5, ← hvb]
          clear hw5 hvb
          refine till_one (i := 6) (by kernel_rfl) rfl rfl fun K hK => ?_
          go_simp
          refine (clone_any _ ao acap l w5 (PS.out.at.below hb5) hao.out (by omega)).mono ?_
          rintro e w6 ⟨v, rfl, hr6, hbl5⟩
          have s6 := Below.cellK hbl5 s5
          obtain ⟨va, vc, rfl⟩ := hr6.form
          refine hK _ _ (.inr id) (fun _ => s6) ?_
          clear hK K
          (try simp only [Act.put, List.setIfInBounds_toArray, List.set_cons_zero, List.set_cons_succ])
          have hv6 : w6.heap[vb]? = some (.cells #[iv k] 3 (0, 0)) := by rw [hbl5.block vb hs5]; exact hv5
          have hlt5 := hr6.lt
          have hbd : Below wd.heap.size wd w6 := hb5.trans (hbl5.mono hBB)
          have hne : ∀ g', va = some ⟨g', 0, none⟩ → vb ≠ g' := fun g' hg' => by subst hg'; have := (hlt5 g' rfl).1; omega
          clear hlt5
          refine till_one (i := 10) (by kernel_rfl) rfl rfl fun K hK => ?_
          go_simp
          refine (insert_any w5.heap.size l.length vc ix vb k va l w6 hr6 hix (by omega) hbl5.size hv6 hne).mono ?_
          rintro e w7 ⟨ib, icap, rfl, hic, hicm, hna, hbl7'⟩
          have hbl7 := hbl7'.mono hBB
          have hb7 : Below wd.heap.size wd w7 := hbd.trans hbl7
          have G7 := gD.grown (Below.asGrown hb7)
          have s7 : w7.cell? ⟨rb, 3, none⟩ = some (.slice (some ⟨nb0, 0, none⟩) g g) := Below.cellK hb7 hS0
          have hvk : vs[k]? = some (vs[k]'(by have := HV.out; omega)) := List.getElem?_eq_getElem _
          have ck := (G7.cellAt 2 (e := 27) (g := nb0) (n := g) (cap := g) (xs := vs) rfl k hvk).1
          have fk := (G7.cellAt 2 (e := 27) (g := nb0) (n := g) (cap := g) (xs := vs) rfl k hvk).2
          have GZ := G7.setAt 2 (e := 27) (g := nb0) (n := g) (cap := g) (xs := vs) rfl (by decide) k (.slice (some ⟨ib, 0, none⟩) (l.length + 1) icap)
          have z3 := GZ.own.box_cell 0 rfl 3 rfl
          refine hK _ _ (.inr id) (fun _ => s7) ?_
          clear hK K
          (try simp only [Act.put, List.setIfInBounds_toArray, List.set_cons_zero, List.set_cons_succ])
          refine till_take0 11 (some 62) (v := ?vt11) rfl rfl (by kernel_rfl) (by kernel_rfl) (by kernel_rfl) (fun _ _ _ h => h) (Or.inl ⟨by rfl, ?yt11⟩) s7 ?rt11
          case yt11 => intro w' s1; go_simp; all_goals with_reducible rfl
          simp only [Act.put, List.setIfInBounds_toArray, List.set_cons_zero, List.set_cons_succ]
          refine till_one (i := 12) (by kernel_rfl) rfl rfl fun K hK => ?_
          go_simp
          refine hK _ _ (.inl (by simp)) (fun _ => z3) ?_
          clear hK K
          refine till_done (by kernel_rfl) ?_ _
          refine NoPanic.normal ?_
          go_wp2_with fail
          go_meet
          have eL : l.length + 1 = (insL l ix k).length := (insL_length l ix k hix).symm
          rw [eL]
          exact rc_near HV.out HZ.out hlt gD P0 P1 PL PN hb7 (hna.lower hBB) (by rw [← eL, HLD.out]) (fun x hx => by rcases insL_mem hx with h | h; exact HLX.out x h; subst h; exact hlt) (by omega) hicm
      case rest =>
        obtain ⟨vs2, zs2, hvl2, hzl2, gX, X0, X1, XL, XN⟩ := hcut
        obtain ⟨ns, hnsl, hnsx, hnsa⟩ := XN.out
        have hkn : k < ns.length := by omega
        obtain ⟨hnD, b2, cap2, hvk2, hnc2, hncm2, hNS2⟩ := hnsa k hkn
        obtain ⟨nl, hnl⟩ : ∃ l, l = ns[k] := ⟨_, rfl⟩
        rw [← hnl] at hnD hvk2 hnc2 hNS2
        have HXX : Hid (∀ x ∈ nl, x < g) := by show _; rw [hnl]; exact hnsx _ (List.getElem_mem hkn)
        have hnl14 : nl.length ≤ 13 := by rw [hnD]; have := hD.out k; omega
        have R2 : RcIn w.heap.size w rb g nb0 hb sa (.slice a1 (g + 1) c1) (.slice (some ⟨ob, 0, none⟩) g oc) D (k + 1) a0 a1 ob (groupL 0 ps) SL ls vs2 b2 nl wc := ⟨zs2, hzl2, gX, X0, X1, XL, XN, hNS2⟩
        have HV2 : Hid (vs2.length = g) := hvl2
        have ck := (gX.cellAt 2 (e := 27) (g := nb0) (n := g) (cap := g) (xs := vs2) rfl k hvk2).1
        have q3 := gX.own.box_cell 0 rfl 3 rfl
        obtain ⟨wi2, rfl⟩ : ∃ x : World, x = wc := ⟨_, rfl⟩
        clear gX X0 X1 XL XN hnsl hnsx hnsa hkn hnD hvk2 hNS2 hnl hvl2 hzl2 P0 P1 PL PN PS gD GD gW
        go_wp2_with fail
        go_loopw [71] (fun i wr => ∃ j : Nat, j ≤ nl.length ∧ i = .int .i64 (j : Int) ∧ RcIn w.heap.size w rb g nb0 hb sa (.slice a1 (g + 1) c1) (.slice (some ⟨ob, 0, none⟩) g oc) D (k + 1) a0 a1 ob (groupL 0 ps) SL ls vs2 b2 nl wr) (fun i _ => nl.length - (intOf i).toNat)
        case atStart => exact ⟨0, Nat.zero_le _, rfl, R2⟩
        case round =>
          clear R2 ck q3
          obtain ⟨j, hj, rfl, gR⟩ := hrel
          by_cases hjl : j < nl.length
          · have hji : (j : Int) < (nl.length : Int) := by omega
            obtain ⟨zs3, hzl3, gW, Y0, Y1, YL, YN, YS⟩ := gR
            obtain ⟨b', hb', _, cj, _⟩ := YS.out j hjl
            injection hb' with hb'
            injection hb' with hb' _ _
            subst hb'
            obtain ⟨h, hh⟩ : ∃ h, h = nl[j] := ⟨_, rfl⟩
            have hhg : h < g := by rw [hh]; exact HXX.out _ (List.getElem_mem hjl)
            rw [← hh] at cj
            unfold iv at cj
            clear hh
            obtain ⟨sb, ha1, _, d0, sf0⟩ := Y1.out h (by have := HSLl.out; omega)
            obtain ⟨sb', ha1', _, d1, sf1⟩ := Y1.out (h + 1) (by have := HSLl.out; omega)
            rw [ha1] at ha1'
            injection ha1' with ha1'
            injection ha1' with ha1' _ _
            subst ha1'
            subst ha1
            obtain ⟨s0, hs0⟩ : ∃ s, s = SL[h]'(by have := HSLl.out; omega) := ⟨_, rfl⟩
            obtain ⟨s1, hs1⟩ : ∃ s, s = SL[h + 1]'(by have := HSLl.out; omega) := ⟨_, rfl⟩
            rw [← hs0] at d0
            rw [← hs1] at d1
            unfold iv at d0 d1
            clear hs0 hs1
            obtain ⟨z, hz⟩ : ∃ z, z = zs3[k]'(by omega) := ⟨_, rfl⟩
            have hzk : (zs3.map (Value.int .i64))[k]? = some (.int .i64 z) := by rw [hz, List.getElem?_map, List.getElem?_eq_getElem (by omega)]; rfl
            clear hz
            have HZ3 : Hid (zs3.length = g) := hzl3
            clear hzl3
            have q1 := gW.own.box_cell 0 rfl 1 rfl
            have q4 := gW.own.box_cell 0 rfl 4 rfl
            have hc := gW.cellAt 1 (e := 3) (g := hb) (n := g) (cap := g) (xs := zs3.map (Value.int .i64)) rfl k hzk
            obtain ⟨wj, rfl⟩ : ∃ x : World, x = wr := ⟨_, rfl⟩
            have hw1 : IntKind.i64.wrap ((h : Int) + 1) = (((h + 1 : Nat)) : Int) := by rw [IntKind.wrap_i64]; omega
            have hhi : (h : Int) < ((g + 1 : Nat) : Int) := by omega
            have hhi1 : ((h + 1 : Nat) : Int) < ((g + 1 : Nat) : Int) := by omega
            go_upto_region 12 with fail
            refine wp_region_noPanic ?_
            refine wp_region_till (by kernel_rfl) (fun w' => w'.cell? ⟨hb, k, none⟩ = some (.int .i64 z)) (fun w' => w'.cell? ⟨rb, 1, none⟩ = some (.slice (some ⟨sb, 0, none⟩) (g + 1) c1) ∧ w'.cell? ⟨rb, 4, none⟩ = some (.slice (some ⟨hb, 0, none⟩) g g) ∧ w'.cell? ⟨sb, h, none⟩ = some (.int .i64 (s0 : Int)) ∧ w'.cell? ⟨sb, h + 1, none⟩ = some (.int .i64 (s1 : Int))) [25] 26 rfl ?_
            have hS0 : wj.drew.cell? ⟨rb, 1, none⟩ = some (.slice (some ⟨sb, 0, none⟩) (g + 1) c1) ∧ wj.drew.cell? ⟨rb, 4, none⟩ = some (.slice (some ⟨hb, 0, none⟩) g g) ∧ wj.drew.cell? ⟨sb, h, none⟩ = some (.int .i64 (s0 : Int)) ∧ wj.drew.cell? ⟨sb, h + 1, none⟩ = some (.int .i64 (s1 : Int)) := ⟨q1, q4, d0, d1⟩
            have hS : wj.drew.cell? ⟨hb, k, none⟩ = some (.int .i64 z) := hc.1
            have hfz : wj.drew.frozen? ⟨hb, k, none⟩ = false := hc.2
            have gD := gW.drew
            have GT := (Goes.refl gW.own gW.size).drew.setAt 1 (e := 3) (g := hb) (n := g) (cap := g) (xs := zs3.map (Value.int .i64)) rfl (by decide) k (.int .i64 (wrap64 (z + wrap64 ((s1 : Int) - (s0 : Int)))))
            have z1 := GT.own.box_cell 0 rfl 1 rfl
            have z4 := GT.own.box_cell 0 rfl 4 rfl
            have e0 := Y1.out.goes GT
            have z2 : (wj.drew.setCell ⟨hb, k, none⟩ (.int .i64 (wrap64 (z + wrap64 ((s1 : Int) - (s0 : Int)))))).cell? ⟨sb, h, none⟩ = some (.int .i64 (s0 : Int)) := (GT.safe _ _ d0 sf0).1
            have z3 : (wj.drew.setCell ⟨hb, k, none⟩ (.int .i64 (wrap64 (z + wrap64 ((s1 : Int) - (s0 : Int)))))).cell? ⟨sb, h + 1, none⟩ = some (.int .i64 (s1 : Int)) := (GT.safe _ _ d1 sf1).1
            have h2i : (h : Int) < (g : Int) + 1 := by omega
            have h0i : 0 ≤ (h : Int) + 1 := by omega
            have h1i : (h : Int) + 1 < (g : Int) + 1 := by omega
            have ZZ := And.intro z1 (And.intro z4 (And.intro z2 z3))
            have HZZ := (⟨ZZ⟩ : PLift _)
            clear z1 z2 z3 z4 ZZ e0
            refine till_take0 0 (some 75) (v := ?vq0) rfl rfl (by kernel_rfl) (by kernel_rfl) (by kernel_rfl) (fun _ _ _ h => h) (Or.inl ⟨by rfl, ?yq0⟩) hS0 ?rq0
            case yq0 => intro w' ⟨t1, t2, t3, t4⟩; go_simp; all_goals with_reducible rfl
            simp only [Act.put, List.setIfInBounds_toArray, List.set_cons_zero, List.set_cons_succ]
            refine till_take0 1 (some 76) (v := ?vq1) rfl rfl (by kernel_rfl) (by kernel_rfl) (by kernel_rfl) (fun _ _ _ h => h) (Or.inl ⟨by rfl, ?yq1⟩) hS0 ?rq1
            case yq1 => intro w' ⟨t1, t2, t3, t4⟩; go_simp; all_goals with_reducible rfl
            simp only [Act.put, List.setIfInBounds_toArray, List.set_cons_zero, List.set_cons_succ]
            refine till_take0 2 (some 77) (v := ?vq2) rfl rfl (by kernel_rfl) (by kernel_rfl) (by kernel_rfl) (fun _ _ _ h => h) (Or.inl ⟨by rfl, ?yq2⟩) hS0 ?rq2
            case yq2 => intro w' ⟨t1, t2, t3, t4⟩; go_simp; all_goals with_reducible rfl
            simp only [Act.put, List.setIfInBounds_toArray, List.set_cons_zero, List.set_cons_succ]
            refine till_take0 3 (some 78) (v := ?vq3) rfl rfl (by kernel_rfl) (by kernel_rfl) (by kernel_rfl) (fun _ _ _ h => h) (Or.inl ⟨by rfl, ?yq3⟩) hS0 ?rq3
            case yq3 => intro w' ⟨t1, t2, t3, t4⟩; go_simp; all_goals with_reducible rfl
            simp only [Act.put, List.setIfInBounds_toArray, List.set_cons_zero, List.set_cons_succ]
            refine till_take0 4 (some 79) (v := ?vq4) rfl rfl (by kernel_rfl) (by kernel_rfl) (by kernel_rfl) (fun _ _ _ h => h) (Or.inl ⟨by rfl, ?yq4⟩) hS0 ?rq4
            case yq4 => intro w' ⟨t1, t2, t3, t4⟩; go_simp; all_goals with_reducible rfl
            simp only [Act.put, List.setIfInBounds_toArray, List.set_cons_zero, List.set_cons_succ]
            refine till_take0 5 (some 80) (v := ?vq5) rfl rfl (by kernel_rfl) (by kernel_rfl) (by kernel_rfl) (fun _ _ _ h => h) (Or.inl ⟨by rfl, ?yq5⟩) hS0 ?rq5
            case yq5 => intro w' ⟨t1, t2, t3, t4⟩; go_simp; all_goals with_reducible rfl
            simp only [Act.put, List.setIfInBounds_toArray, List.set_cons_zero, List.set_cons_succ]
            refine till_take 6 (some 81) (v := ?vq6) rfl rfl (by kernel_rfl) (by kernel_rfl) (by kernel_rfl) (by kernel_rfl) (fun _ _ _ h => h) (Or.inl ⟨by rfl, ?yq6⟩) hS ?rq6
            case yq6 => intro w' t0; go_simp; all_goals with_reducible rfl
            simp only [Act.put, List.setIfInBounds_toArray, List.set_cons_zero, List.set_cons_succ]
            refine till_take0 7 (some 82) (v := ?vq7) rfl rfl (by kernel_rfl) (by kernel_rfl) (by kernel_rfl) (fun _ _ _ h => h) (Or.inl ⟨by rfl, ?yq7⟩) hS0 ?rq7
            case yq7 => intro w' ⟨t1, t2, t3, t4⟩; go_simp; all_goals with_reducible rfl
            simp only [Act.put, List.setIfInBounds_toArray, List.set_cons_zero, List.set_cons_succ]
            refine till_take0 8 (some 83) (v := ?vq8) rfl rfl (by kernel_rfl) (by kernel_rfl) (by kernel_rfl) (fun _ _ _ h => h) (Or.inl ⟨by rfl, ?yq8⟩) hS0 ?rq8
            case yq8 => intro w' ⟨t1, t2, t3, t4⟩; go_simp; all_goals with_reducible rfl
            simp only [Act.put, List.setIfInBounds_toArray, List.set_cons_zero, List.set_cons_succ]
            refine till_take0 9 (some 84) (v := ?vq9) rfl rfl (by kernel_rfl) (by kernel_rfl) (by kernel_rfl) (fun _ _ _ h => h) (Or.inl ⟨by rfl, ?yq9⟩) hS0 ?rq9
            case yq9 => intro w' ⟨t1, t2, t3, t4⟩; go_simp; all_goals with_reducible rfl
            simp only [Act.put, List.setIfInBounds_toArray, List.set_cons_zero, List.set_cons_succ]
            refine till_take0 10 (some 85) (v := ?vq10) rfl rfl (by kernel_rfl) (by kernel_rfl) (by kernel_rfl) (fun _ _ _ h => h) (Or.inl ⟨by rfl, ?yq10⟩) hS0 ?rq10
            case yq10 => intro w' ⟨t1, t2, t3, t4⟩; go_simp; all_goals with_reducible rfl
            simp only [Act.put, List.setIfInBounds_toArray, List.set_cons_zero, List.set_cons_succ]
            refine till_take0 11 (some 86) (v := ?vq11) rfl rfl (by kernel_rfl) (by kernel_rfl) (by kernel_rfl) (fun _ _ _ h => h) (Or.inl ⟨by rfl, ?yq11⟩) hS0 ?rq11
            case yq11 => intro w' ⟨t1, t2, t3, t4⟩; go_simp; all_goals with_reducible rfl
            simp only [Act.put, List.setIfInBounds_toArray, List.set_cons_zero, List.set_cons_succ]
            refine till_take0 12 (some 87) (v := ?vq12) rfl rfl (by kernel_rfl) (by kernel_rfl) (by kernel_rfl) (fun _ _ _ h => h) (Or.inl ⟨by rfl, ?yq12⟩) hS0 ?rq12
            case yq12 => intro w' ⟨t1, t2, t3, t4⟩; go_simp; all_goals with_reducible rfl
            simp only [Act.put, List.setIfInBounds_toArray, List.set_cons_zero, List.set_cons_succ]
            refine till_take0 13 (some 88) (v := ?vq13) rfl rfl (by kernel_rfl) (by kernel_rfl) (by kernel_rfl) (fun _ _ _ h => h) (Or.inl ⟨by rfl, ?yq13⟩) hS0 ?rq13
            case yq13 => intro w' ⟨t1, t2, t3, t4⟩; go_simp; all_goals with_reducible rfl
            simp only [Act.put, List.setIfInBounds_toArray, List.set_cons_zero, List.set_cons_succ]
            refine till_take0 14 (some 89) (v := ?vq14) rfl rfl (by kernel_rfl) (by kernel_rfl) (by kernel_rfl) (fun _ _ _ h => h) (Or.inl ⟨by rfl, ?yq14⟩) hS0 ?rq14
            case yq14 => intro w' ⟨t1, t2, t3, t4⟩; go_simp; all_goals with_reducible rfl
            simp only [Act.put, List.setIfInBounds_toArray, List.set_cons_zero, List.set_cons_succ]
            refine till_take0 15 (some 90) (v := ?vq15) rfl rfl (by kernel_rfl) (by kernel_rfl) (by kernel_rfl) (fun _ _ _ h => h) (Or.inl ⟨by rfl, ?yq15⟩) hS0 ?rq15
            case yq15 => intro w' ⟨t1, t2, t3, t4⟩; go_simp; all_goals with_reducible rfl
            simp only [Act.put, List.setIfInBounds_toArray, List.set_cons_zero, List.set_cons_succ]
            refine till_take0 16 (some 91) (v := ?vq16) rfl rfl (by kernel_rfl) (by kernel_rfl) (by kernel_rfl) (fun _ _ _ h => h) (Or.inl ⟨by rfl, ?yq16⟩) hS0 ?rq16
            case yq16 => intro w' ⟨t1, t2, t3, t4⟩; go_simp; all_goals with_reducible rfl
            simp only [Act.put, List.setIfInBounds_toArray, List.set_cons_zero, List.set_cons_succ]
            refine till_take0 17 (some 92) (v := ?vq17) rfl rfl (by kernel_rfl) (by kernel_rfl) (by kernel_rfl) (fun _ _ _ h => h) (Or.inl ⟨by rfl, ?yq17⟩) hS0 ?rq17
            case yq17 => intro w' ⟨t1, t2, t3, t4⟩; go_simp; all_goals with_reducible rfl
            simp only [Act.put, List.setIfInBounds_toArray, List.set_cons_zero, List.set_cons_succ]
            refine till_take0 18 (some 93) (v := ?vq18) rfl rfl (by kernel_rfl) (by kernel_rfl) (by kernel_rfl) (fun _ _ _ h => h) (Or.inl ⟨by rfl, ?yq18⟩) hS0 ?rq18
            case yq18 => intro w' ⟨t1, t2, t3, t4⟩; go_simp; all_goals with_reducible rfl
            simp only [Act.put, List.setIfInBounds_toArray, List.set_cons_zero, List.set_cons_succ]
            refine till_take0 19 (some 94) (v := ?vq19) rfl rfl (by kernel_rfl) (by kernel_rfl) (by kernel_rfl) (fun _ _ _ h => h) (Or.inl ⟨by rfl, ?yq19⟩) hS0 ?rq19
            case yq19 => intro w' ⟨t1, t2, t3, t4⟩; go_simp; all_goals with_reducible rfl
            simp only [Act.put, List.setIfInBounds_toArray, List.set_cons_zero, List.set_cons_succ]
            refine till_take0 20 (some 95) (v := ?vq20) rfl rfl (by kernel_rfl) (by kernel_rfl) (by kernel_rfl) (fun _ _ _ h => h) (Or.inl ⟨by rfl, ?yq20⟩) hS0 ?rq20
            case yq20 => intro w' ⟨t1, t2, t3, t4⟩; go_simp; all_goals with_reducible rfl
            simp only [Act.put, List.setIfInBounds_toArray, List.set_cons_zero, List.set_cons_succ]
            refine till_take0 21 (some 96) (v := ?vq21) rfl rfl (by kernel_rfl) (by kernel_rfl) (by kernel_rfl) (fun _ _ _ h => h) (Or.inl ⟨by rfl, ?yq21⟩) hS0 ?rq21
            case yq21 => intro w' ⟨t1, t2, t3, t4⟩; go_simp; all_goals with_reducible rfl
            simp only [Act.put, List.setIfInBounds_toArray, List.set_cons_zero, List.set_cons_succ]
            refine till_take0 22 (some 97) (v := ?vq22) rfl rfl (by kernel_rfl) (by kernel_rfl) (by kernel_rfl) (fun _ _ _ h => h) (Or.inl ⟨by rfl, ?yq22⟩) hS0 ?rq22
            case yq22 => intro w' ⟨t1, t2, t3, t4⟩; go_simp; all_goals with_reducible rfl
            simp only [Act.put, List.setIfInBounds_toArray, List.set_cons_zero, List.set_cons_succ]
            refine till_take0 23 (some 98) (v := ?vq23) rfl rfl (by kernel_rfl) (by kernel_rfl) (by kernel_rfl) (fun _ _ _ h => h) (Or.inl ⟨by rfl, ?yq23⟩) hS0 ?rq23
            case yq23 => intro w' ⟨t1, t2, t3, t4⟩; go_simp; all_goals with_reducible rfl
            simp only [Act.put, List.setIfInBounds_toArray, List.set_cons_zero, List.set_cons_succ]
            refine till_take0 24 (some 99) (v := ?vq24) rfl rfl (by kernel_rfl) (by kernel_rfl) (by kernel_rfl) (fun _ _ _ h => h) (Or.inl ⟨by rfl, ?yq24⟩) hS0 ?rq24
            case yq24 => intro w' ⟨t1, t2, t3, t4⟩; go_simp; all_goals with_reducible rfl
            simp only [Act.put, List.setIfInBounds_toArray, List.set_cons_zero, List.set_cons_succ]
            refine till_one (i := 25) (by kernel_rfl) rfl rfl fun K hK => ?_
            go_simp
            refine hK _ _ (.inl (by simp)) (fun _ => by rw [i64w, i64w]; exact HZZ.down) ?_
            clear hK K
            refine till_done (by kernel_rfl) ?_ _
            refine NoPanic.normal ?_
            go_wp2_with fail
            go_roundw
            case rel =>
              refine ⟨j + 1, hjl, by go_num, zs3.set k (wrap64 (z + wrap64 ((s1 : Int) - (s0 : Int)))), by rw [List.length_set]; exact HZ3.out, ?_⟩
              have eR : RLs rb sa (.slice (some ⟨sb, 0, none⟩) (g + 1) c1) (.slice (some ⟨ob, 0, none⟩) g oc) g nb0 hb vs2 (zs3.set k (wrap64 (z + wrap64 ((s1 : Int) - (s0 : Int))))) = (RLs rb sa (.slice (some ⟨sb, 0, none⟩) (g + 1) c1) (.slice (some ⟨ob, 0, none⟩) g oc) g nb0 hb vs2 zs3).set 1 (rowOf 3 (.slice (some ⟨hb, 0, none⟩) g g) ((zs3.map (Value.int .i64)).set k (.int .i64 (wrap64 (z + wrap64 ((s1 : Int) - (s0 : Int))))))) := by
                unfold RLs
                rw [List.map_set]
                rfl
              rw [eR]
              exact ⟨gW.trans GT, Y0.out.goes GT, Y1.out.goes GT, YL.out.goes GT, YN.out.goes GT, YS.out.goes GT⟩
            case measure => simp [intOf]; omega
          · have hji : decide ((j : Int) < (nl.length : Int)) = false := decide_eq_false (by omega)
            go_wp2
            go_roundw
            case rel =>
              obtain ⟨zs3, hzl3, gW, Y0, Y1, YL, YN, YS⟩ := gR
              exact ⟨k + 1, hlt, by go_num, vs2, zs3, HV2.out, hzl3, gW, Y0, Y1, YL, YN⟩
            case measure => simp [intOf]; omega
    · have hki : decide ((k : Int) < (g : Int)) = false := decide_eq_false (by omega)
      have hke : k = g := by omega
      subst hke
      go_wp2
      go_ret
      obtain ⟨vs, zs, hvl, hzl, gW, M0, M1, ML, ⟨ns, n1, n2, n3⟩⟩ := gR
      refine ⟨rfl, ⟨a0, c0, a1, c1, ob, oc, nb0, ls, ns, (RowM.lt (gW.own.get 0 rfl) rb rfl).1, ?_, M0.out.at, ?_, ?_, ?_, ?_, ML.out.at, ?_, ?_, ?_⟩, gW.below⟩
      · rw [← HSA.out]; exact gW.own.box_cell 0 rfl 0 rfl
      · rw [← HG.out]; exact gW.own.box_cell 0 rfl 1 rfl
      · rw [← HSL.out]; exact M1.out.at
      · rw [← HG.out]; exact gW.own.box_cell 0 rfl 2 rfl
      · rw [← HG.out]; exact HOK.out
      · rw [← HG.out]; exact gW.own.box_cell 0 rfl 3 rfl
      · rw [← HG.out]; exact ⟨n1, n2, fun a ha => (n3 a ha).1⟩
      · intro j hj
        obtain ⟨e1, b, cap, e2, e3, e4, e5⟩ := n3 j hj
        exact ⟨nb0, some ⟨b, 0, none⟩, cap, rfl, (RowM.lt (gW.own.get 2 rfl) nb0 rfl).1, (gW.cellAt 2 (e := 27) (g := nb0) (n := k) (cap := k) (xs := vs) rfl j e2).1, e3, e4, (fun h => by cases h), e5.at⟩

end Go.Proofs.YbulkaxksFmt
