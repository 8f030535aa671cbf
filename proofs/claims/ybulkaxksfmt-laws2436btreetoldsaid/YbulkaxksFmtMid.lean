/-
  newMAPShape: what is heard, and the root.
-/
import Derived.Test.YbulkaxksFmtTr
set_option linter.unusedVariables false
set_option linter.unusedSimpArgs false
namespace Go.Proofs.YbulkaxksFmt
open Go.RowKit

theorem Goes.swap2 {B : Nat} {w w' : World} {L0 L : List RowS} {a b : RowS} (h : Goes B w L0 w' (a :: b :: L)) : Goes B w L0 w' (b :: a :: L) := by
  have key : ∀ i (hi : i < (b :: a :: L).length), ∃ j, ∃ hj : j < (a :: b :: L).length, (b :: a :: L)[i] = (a :: b :: L)[j] ∧ (i = 0 → j = 1) ∧ (i = 1 → j = 0) ∧ (2 ≤ i → j = i) := by
    intro i hi
    match i, hi with
    | 0, _ => exact ⟨1, by simp, rfl, by simp, by simp, by simp⟩
    | 1, _ => exact ⟨0, by simp, rfl, by simp, by simp, by simp⟩
    | i + 2, hi => exact ⟨i + 2, by simpa using hi, rfl, by simp, by simp, by simp⟩
  refine ⟨⟨fun i hi => ?_, fun i j hi hj hne => ?_⟩, fun x v h1 h2 => ?_, h.below, h.size⟩
  · obtain ⟨j, hj, e, -⟩ := key i hi
    rw [e]
    exact h.own.rows j hj
  · obtain ⟨i', hi', e, a1, a2, a3⟩ := key i hi
    obtain ⟨j', hj', e', b1, b2, b3⟩ := key j hj
    rw [e, e']
    refine h.own.apart i' j' hi' hj' ?_
    intro he
    rcases Nat.lt_or_ge i 2 with hi2 | hi2 <;> rcases Nat.lt_or_ge j 2 with hj2 | hj2
    · have : i = 0 ∨ i = 1 := by omega
      have : j = 0 ∨ j = 1 := by omega
      rcases ‹i = 0 ∨ i = 1› with r | r <;> rcases ‹j = 0 ∨ j = 1› with r' | r'
      · omega
      · have := a1 r; have := b2 r'; omega
      · have := a2 r; have := b1 r'; omega
      · omega
    · have := b3 hj2
      have : i = 0 ∨ i = 1 := by omega
      rcases this with r | r
      · have := a1 r; omega
      · have := a2 r; omega
    · have := a3 hi2
      have : j = 0 ∨ j = 1 := by omega
      rcases this with r | r
      · have := b1 r; omega
      · have := b2 r; omega
    · have := a3 hi2; have := b3 hj2; omega
  · obtain ⟨y1, y2⟩ := h.safe x v h1 h2
    refine ⟨y1, fun i hi hb => ?_⟩
    obtain ⟨j, hj, e, -⟩ := key i hi
    rw [e] at hb ⊢
    exact y2 j hj hb

/-- The reach's cells, by name. -/
def RX (lo : Nat) (w : World) (L : List RowS) (rb q g : Nat) (gl sl : List Nat) (a0 : Option Addr) (c0 : Nat) (a1 : Option Addr) (c1 ob oc nb : Nat) (ls ns : List (List Nat)) : Prop :=
  CellS w L ⟨rb, 0, none⟩ (.slice a0 q c0) ∧ NatsL lo w L a0 gl ∧ CellS w L ⟨rb, 1, none⟩ (.slice a1 (g + 1) c1) ∧ NatsL lo w L a1 sl ∧
    CellS w L ⟨rb, 2, none⟩ (.slice (some ⟨ob, 0, none⟩) g oc) ∧ NatssL lo w L (some ⟨ob, 0, none⟩) ls ∧ CellS w L ⟨rb, 3, none⟩ (.slice (some ⟨nb, 0, none⟩) g g) ∧ NatssL lo w L (some ⟨nb, 0, none⟩) ns
theorem RX.goes {B lo : Nat} {w w' : World} {L L' : List RowS} {rb q g : Nat} {gl sl : List Nat} {a0 : Option Addr} {c0 : Nat} {a1 : Option Addr} {c1 ob oc nb : Nat} {ls ns : List (List Nat)} (h : RX lo w L rb q g gl sl a0 c0 a1 c1 ob oc nb ls ns) (hg : Goes B w L w' L') : RX lo w' L' rb q g gl sl a0 c0 a1 c1 ob oc nb ls ns := by
  obtain ⟨h1, h2, h3, h4, h5, h6, h7, h8⟩ := h
  exact ⟨h1.goes hg, h2.goes hg, h3.goes hg, h4.goes hg, h5.goes hg, h6.goes hg, h7.goes hg, h8.goes hg⟩

theorem startsL_le : ∀ (ps : List Nat) (s : Nat), ∀ x ∈ startsL s ps, x ≤ s + ps.sum
  | [], s, x, h => by cases h
  | p :: t, s, x, h => by
    rcases List.mem_cons.1 h with h | h
    · subst h; omega
    · have := startsL_le t (s + p) x h
      simp only [List.sum_cons]
      omega
theorem mul_bound {a b : Int} (ha : -12 ≤ a ∧ a ≤ 12) (hb : -157 ≤ b ∧ b ≤ 157) : -1884 ≤ a * b ∧ a * b ≤ 1884 := by
  have : a = -12 ∨ a = -11 ∨ a = -10 ∨ a = -9 ∨ a = -8 ∨ a = -7 ∨ a = -6 ∨ a = -5 ∨ a = -4 ∨ a = -3 ∨ a = -2 ∨ a = -1 ∨ a = 0 ∨ a = 1 ∨ a = 2 ∨ a = 3 ∨ a = 4 ∨ a = 5 ∨ a = 6 ∨ a = 7 ∨ a = 8 ∨ a = 9 ∨ a = 10 ∨ a = 11 ∨ a = 12 := by omega
  rcases this with h | h | h | h | h | h | h | h | h | h | h | h | h | h | h | h | h | h | h | h | h | h | h | h | h <;> subst h <;> omega

def M1Rel (B : Nat) (w : World) (lo fb g : Nat) (box0 : RowS) (rb q : Nat) (gl sl : List Nat) (a0 : Option Addr) (c0 : Nat) (a1 : Option Addr) (c1 ob oc nb3 : Nat) (ls ns : List (List Nat)) (x : Nat) (H : Int) (wr : World) : Prop :=
  ∃ vs : List Value, vs.length = g ∧ (∀ j, x ≤ j → j < g → vs[j]? = some (.slice none 0 0)) ∧ (-(1884 * (x : Int)) ≤ H ∧ H ≤ 1884 * (x : Int)) ∧
    Goes B w [] wr [rowOf 27 (.slice (some ⟨fb, 0, none⟩) g g) vs, box0] ∧ RX lo wr [rowOf 27 (.slice (some ⟨fb, 0, none⟩) g g) vs, box0] rb q g gl sl a0 c0 a1 c1 ob oc nb3 ls ns
def M2Rel (B : Nat) (w : World) (lo fb g : Nat) (box0 : RowS) (rb q : Nat) (gl sl : List Nat) (a0 : Option Addr) (c0 : Nat) (a1 : Option Addr) (c1 ob oc nb3 : Nat) (ls ns : List (List Nat)) (x : Nat) (ao : Option Addr) (nl : List Nat) (j : Nat) (S : Int) (wr : World) : Prop :=
  ∃ (vs xs : List Value) (v : Value), vs.length = g ∧ xs.length = j ∧ vs[x]? = some v ∧ (∀ j, x + 1 ≤ j → j < g → vs[j]? = some (.slice none 0 0)) ∧ (-(12 * (j : Int)) ≤ S ∧ S ≤ 12 * (j : Int)) ∧
    Goes B w [] wr [rowOf 3 v xs, rowOf 27 (.slice (some ⟨fb, 0, none⟩) g g) vs, box0] ∧ RX lo wr [rowOf 3 v xs, rowOf 27 (.slice (some ⟨fb, 0, none⟩) g g) vs, box0] rb q g gl sl a0 c0 a1 c1 ob oc nb3 ls ns ∧ NatsL lo wr [rowOf 3 v xs, rowOf 27 (.slice (some ⟨fb, 0, none⟩) g g) vs, box0] ao nl


theorem one_row (w : World) (B : Nat) (e : TypeId) (v : Value) (hB : B ≤ w.heap.size) : (rowOf e (.slice (some ⟨w.heap.size, 0, none⟩) 1 1) [v]).at (w.alloc (.cells #[v] e)) B := box_new w B e [v] hB

theorem root_rel {B : Nat} {w w2 : World} {g lo rb sb gs src : Nat} {ps : List Nat} {D : Nat → Nat} {rounds few : Int} {off : Value} {corr fully : Bool} {W : Int} (hgs : gs < g) (hW : -8000 ≤ W ∧ W ≤ 8000)
    (gB : Goes B w [] w2 [box 45 sb (shXs rb rounds src off corr few fully (.slice none 0 0) (.slice none 0 0) (.slice none 0 0))])
    (hR : ReachL lo w2 [box 45 sb (shXs rb rounds src off corr few fully (.slice none 0 0) (.slice none 0 0) (.slice none 0 0))] rb ps D) :
    C3Rel B w g lo rb sb ps D gs (shXs rb rounds src off corr few fully) 0 W ((((((w2.alloc (Obj.cells #[Value.int IntKind.i32 (gs : Int)] 21)).alloc (Obj.cells #[Value.slice (some { block := w2.heap.size, off := 0 }) 1 1] 47)).alloc (Obj.cells #[Value.int IntKind.i32 (-1)] 21)).alloc (Obj.cells #[Value.slice (some { block := w2.heap.size + 1 + 1, off := 0 }) 1 1] 47)).setCell { block := sb, off := 12 } (Value.slice (some { block := w2.heap.size + 1, off := 0 }) 1 1)).setCell { block := sb, off := 13 } (Value.slice (some { block := w2.heap.size + 1 + 1 + 1, off := 0 }) 1 1)) := by
  obtain ⟨b, hb⟩ : ∃ b, b = w2.heap.size := ⟨_, rfl⟩
  rw [← hb]
  have G0 := (Goes.refl gB.own gB.size).nilRow 47
  obtain ⟨x1, hx1⟩ : ∃ W, W = w2.alloc (.cells #[Value.int .i32 (gs : Int)] 21) := ⟨_, rfl⟩
  have s1 : x1.heap.size = b + 1 := by rw [hx1, hb]; simp
  have G1 := G0.alloc (.cells #[Value.int .i32 (gs : Int)] 21)
  have C1 : CellS x1 _ ⟨b, 0, none⟩ (.int .i32 (gs : Int)) := ⟨by rw [hx1, hb]; exact news_alloc w2 [.int .i32 (gs : Int)] 21 0 _ rfl, by rw [hb]; exact safe_new G0.own 0⟩
  rw [← hx1] at G1 ⊢
  obtain ⟨x2, hx2⟩ : ∃ W, W = x1.alloc (.cells #[Value.slice (some ⟨b, 0, none⟩) 1 1] 47) := ⟨_, rfl⟩
  have r2 := one_row x1 B 47 (.slice (some ⟨b, 0, none⟩) 1 1) G1.size
  have g2 := World.grownBy_alloc x1 (.cells #[Value.slice (some ⟨b, 0, none⟩) 1 1] 47) none
  rw [s1] at r2
  rw [← hx2] at r2 g2 ⊢
  have s2 : x2.heap.size = b + 1 + 1 := by rw [hx2, ← s1]; simp
  have H2 := (Goes.refl G1.own G1.size).cons r2 g2 (fun k hk => by simp [rowOf, Value.ownBlock] at hk; omega)
  have G2 := G1.trans H2
  have C1 := C1.goes H2
  obtain ⟨x3, hx3⟩ : ∃ W, W = x2.alloc (.cells #[Value.int .i32 (-1)] 21) := ⟨_, rfl⟩
  have s3 : x3.heap.size = b + 1 + 1 + 1 := by rw [hx3, ← s2]; simp
  have H3 := (Goes.refl G2.own G2.size).alloc (.cells #[Value.int .i32 (-1)] 21)
  have C3 : CellS x3 _ ⟨b + 1 + 1, 0, none⟩ (.int .i32 (-1)) := ⟨by rw [hx3, ← s2]; exact news_alloc x2 [.int .i32 (-1)] 21 0 _ rfl, by rw [← s2]; exact safe_new G2.own 0⟩
  rw [← hx3] at H3 ⊢
  have G3 := G2.trans H3
  have C1 := C1.goes H3
  obtain ⟨x4, hx4⟩ : ∃ W, W = x3.alloc (.cells #[Value.slice (some ⟨b + 1 + 1, 0, none⟩) 1 1] 47) := ⟨_, rfl⟩
  have r4 := one_row x3 B 47 (.slice (some ⟨b + 1 + 1, 0, none⟩) 1 1) G3.size
  have g4 := World.grownBy_alloc x3 (.cells #[Value.slice (some ⟨b + 1 + 1, 0, none⟩) 1 1] 47) none
  rw [s3] at r4
  rw [← hx4] at r4 g4 ⊢
  have H4 := (((Goes.refl G3.own G3.size).cons r4 g4 (fun k hk => by simp [rowOf, Value.ownBlock] at hk; omega)).swap2.setBox 3 rfl (by decide) 12 (by simp [shXs]) (.slice (some ⟨b + 1, 0, none⟩) 1 1)).setBox 3 rfl (by decide) 13 (by simp [shXs]) (.slice (some ⟨b + 1 + 1 + 1, 0, none⟩) 1 1)
  have C1 := C1.goes H4
  have C3 := C3.goes H4
  have G4 := G3.trans H4
  refine ⟨b + 1, 1, b + 1 + 1 + 1, 1, .slice none 0 0, [.slice (some ⟨b, 0, none⟩) 1 1], [.slice (some ⟨b + 1 + 1, 0, none⟩) 1 1], [], [[(gs : Int)]], [[-1]], rfl, rfl, ⟨rfl, ?_, ?_, ?_⟩, rfl, rfl, ?_, by simpa using hW, gB.trans G4, ⟨rfl, ?_⟩, ⟨rfl, ?_⟩, hR.goes G4⟩
  · intro l h h'
    have : l = 0 := by simp at h; omega
    subst this; rfl
  · intro l hl x hx
    simp at hl
    subst hl
    simp at hx
    omega
  · intro l h h'
    simp at h
  · intro j hj
    have : j = 0 := by simp at hj; omega
    subst this; simp
  · intro j hj
    have : j = 0 := by simp at hj; omega
    subst this
    refine ⟨some ⟨b, 0, none⟩, 1, rfl, fun i hi => ?_⟩
    have : i = 0 := by simp at hi; omega
    subst this
    exact ⟨b, rfl, C1.1, C1.2⟩
  · intro j hj
    have : j = 0 := by simp at hj; omega
    subst this
    refine ⟨some ⟨b + 1 + 1, 0, none⟩, 1, rfl, fun i hi => ?_⟩
    have : i = 0 := by simp at hi; omega
    subst this
    exact ⟨b + 1 + 1, rfl, C3.1, C3.2⟩

set_option maxRecDepth 1000000 in
set_option maxHeartbeats 2000000 in
theorem shape_mid (B nb src sb rb g q lo gs fb : Nat) (ps : List Nat) (D : Nat → Nat) (rounds few lev : Int) (corr fully : Bool) (w w1 : World)
    (u5 u6 u7 u8 u9 u10 u11 u14 u16 u17 u18 u19 u20 u21 u22 u23 u24 u25 u26 u27 u28 u29 u30 u31 u32 u33 u34 u35 u36 u37 u38 u39 u40 u41 u42 u43 u44 u45 u46 u47 u48 u49 u50 u51 u52 u53 u54 u55 u56 u57 u58 u59 u60 u61 u62 u63 u64 u65 u66 u67 u68 u69 u70 u71 u72 u73 u74 u75 u76 u77 u78 u79 u80 u81 u82 u83 u84 u85 u86 u87 u88 u89 u90 u91 u92 u93 u94 u95 u96 u97 u98 u99 u100 u101 u102 u103 u104 u105 u106 u107 u108 u109 u110 u111 u112 u113 u114 u115 u116 u117 u118 u119 u120 u121 u122 u123 u124 u125 u126 u127 u128 u129 u130 u131 u132 u133 u134 u135 u136 u137 u138 u139 u140 u141 u142 u143 u144 u145 u146 u147 u148 u149 u150 u151 u152 u153 u154 u155 u156 u157 u158 u159 u160 u161 u162 u163 u164 u165 u166 u167 u168 u169 u170 u171 u172 u173 u174 u175 u176 u177 u178 u179 u180 u181 u182 u183 u184 u185 u186 u187 u188 u189 u190 u191 u192 u193 u194 u195 u196 u197 u198 u199 u200 u201 u202 u203 u204 u205 u206 u207 u208 u209 u210 u211 u212 u213 u214 u215 u216 u217 u218 u219 u220 u221 u222 u223 u224 u225 u226 u227 u228 u229 u230 u231 u232 u233 u234 u235 u236 u237 u238 u239 u240 u241 u242 u243 u244 u245 u246 u247 u248 u249 u250 u251 u252 u253 u254 u255 u256 u257 u258 u259 u260 u261 u262 u263 u264 u265 u266 u267 u268 u269 u270 u271 u272 u273 u274 u275 u276 u277 u278 u279 u280 u281 u282 u283 u284 u285 u286 u287 u288 u289 u290 u291 u292 u293 : Value)
    (HG : Hid (g = ps.length)) (hg4 : g ≤ 4) (HQ : Hid (q = ps.sum)) (hq : q ≤ 12) (hsrc : src < q) (hD : Hid (∀ a, D a ≤ 12)) (hrd : 0 ≤ rounds ∧ rounds ≤ 4) (HGS : Hid ((groupL 0 ps)[src]? = some gs)) (hgs : gs < g) (HLV : Hid (lev = if corr then rounds - 1 else rounds))
    (G0 : Goes B w [] w1 [rowOf 27 (.slice (some ⟨fb, 0, none⟩) g g) (List.replicate g (.slice none 0 0)), box 45 sb ((shXs rb rounds src (.slice (some ⟨fb, 0, none⟩) g g) corr few fully) (.slice none 0 0) (.slice none 0 0) (.slice none 0 0))])
    (HR : Hid (ReachL lo w1 [rowOf 27 (.slice (some ⟨fb, 0, none⟩) g g) (List.replicate g (.slice none 0 0)), box 45 sb ((shXs rb rounds src (.slice (some ⟨fb, 0, none⟩) g g) corr few fully) (.slice none 0 0) (.slice none 0 0) (.slice none 0 0))] rb ps D)) :
    Code.wp Ybaf.prog code10_6 (bodyPost Ybaf.prog Ybaf.f10 (TreePost B w g lo rb sb ps D gs (shXs rb rounds src (.slice (some ⟨fb, 0, none⟩) g g) corr few fully) lev)) ⟨#[.pointer (some ⟨nb, 0, none⟩), .int .i64 (src : Int), .int .i64 rounds, .bool corr, .int .i64 few, u5, u6, u7, u8, u9, u10, u11, .int .i64 (g : Int), .int .i64 (q : Int), u14, .pointer (some ⟨sb, 0, none⟩), u16, u17, u18, u19, u20, u21, u22, u23, u24, u25, u26, u27, u28, u29, u30, u31, u32, u33, u34, u35, u36, u37, u38, u39, u40, u41, u42, u43, u44, u45, u46, u47, u48, u49, u50, u51, u52, u53, u54, u55, u56, u57, u58, u59, u60, u61, u62, u63, u64, u65, u66, u67, u68, u69, u70, u71, u72, u73, u74, u75, u76, u77, u78, u79, u80, u81, u82, u83, u84, u85, u86, u87, u88, u89, u90, u91, u92, u93, u94, u95, u96, u97, u98, u99, u100, u101, u102, u103, u104, u105, u106, u107, u108, u109, u110, u111, u112, u113, u114, u115, u116, u117, u118, u119, u120, u121, u122, u123, u124, u125, u126, u127, u128, u129, u130, u131, u132, u133, u134, u135, u136, u137, u138, u139, u140, u141, u142, u143, u144, u145, u146, u147, u148, u149, u150, u151, u152, u153, u154, u155, u156, u157, u158, u159, u160, u161, u162, u163, u164, u165, u166, u167, u168, u169, u170, u171, u172, u173, u174, u175, u176, u177, u178, u179, u180, u181, u182, u183, u184, u185, u186, u187, u188, u189, u190, u191, u192, u193, u194, u195, u196, u197, u198, u199, u200, u201, u202, u203, u204, u205, u206, u207, u208, u209, u210, u211, u212, u213, u214, u215, u216, u217, u218, u219, u220, u221, u222, u223, u224, u225, u226, u227, u228, u229, u230, u231, u232, u233, u234, u235, u236, u237, u238, u239, u240, u241, u242, u243, u244, u245, u246, u247, u248, u249, u250, u251, u252, u253, u254, u255, u256, u257, u258, u259, u260, u261, u262, u263, u264, u265, u266, u267, u268, u269, u270, u271, u272, u273, u274, u275, u276, u277, u278, u279, u280, u281, u282, u283, u284, u285, u286, u287, u288, u289, u290, u291, u292, u293], []⟩ w1 := by
  obtain ⟨i3, hi3, hz30, hz31, hz32⟩ := info_parts Ybaf.kinfo3
  obtain ⟨a0, c0, a1, c1, ob, oc, nb3, ls, ns, h1, h2, h3, h4, h5, hok1, h6, h7, hok2, h8⟩ := HR.out
  obtain ⟨gl, hgl⟩ : ∃ l, l = groupL 0 ps := ⟨_, rfl⟩
  obtain ⟨sl, hsl⟩ : ∃ l, l = startsL 0 ps ++ [ps.sum] := ⟨_, rfl⟩
  have HGL : Hid (gl = groupL 0 ps) := hgl
  have HSL : Hid (sl = startsL 0 ps ++ [ps.sum]) := hsl
  have HSLl : Hid (sl.length = g + 1) := by show _ = _; rw [hsl, List.length_append, startsL_length, HG.out]; rfl
  have HSLb : Hid (∀ x ∈ sl, x ≤ 12) := fun x hx => by
    rw [hsl] at hx
    have := HQ.out
    rcases List.mem_append.1 hx with h | h
    · have := startsL_le ps 0 x h; omega
    · simp at h; omega
  rw [← hgl] at h2
  rw [← hsl] at h4
  rw [← HQ.out] at h1
  rw [← HG.out] at h3 h5 h7 hok1 hok2
  have HN1 : Hid (NbOk g D ls) := hok1
  have HN2 : Hid (NbOk g (fun a => D a + 1) ns) := hok2
  have R0 : Hid (M1Rel B w lo fb g (box 45 sb ((shXs rb rounds src (.slice (some ⟨fb, 0, none⟩) g g) corr few fully) (.slice none 0 0) (.slice none 0 0) (.slice none 0 0))) rb q gl sl a0 c0 a1 c1 ob oc nb3 ls ns 0 0 w1) := ⟨List.replicate g (.slice none 0 0), by simp, fun j _ hj => by rw [List.getElem?_replicate]; simp [hj], by simp, G0, h1, h2, h3, h4, h5, h6, h7, h8⟩
  have y0 := G0.own.box_cell 1 rfl 0 rfl
  have y3 := h7.1
  clear h1 h2 h3 h4 h5 h6 h7 h8 hok1 hok2 hgl hsl HR G0
  conv => arg 2; whnf
  go_wp2_with fail
  go_loopw [16, 74] (fun a b wr => ∃ (x : Nat) (H : Int), x ≤ g ∧ a = .int .i64 H ∧ b = .int .i64 (x : Int) ∧ Hid (M1Rel B w lo fb g (box 45 sb ((shXs rb rounds src (.slice (some ⟨fb, 0, none⟩) g g) corr few fully) (.slice none 0 0) (.slice none 0 0) (.slice none 0 0))) rb q gl sl a0 c0 a1 c1 ob oc nb3 ls ns x H wr)) (fun _ b _ => g - (intOf b).toNat)
  case atStart => exact ⟨0, 0, Nat.zero_le _, rfl, rfl, R0⟩
  case round =>
    clear R0 y0 y3
    obtain ⟨x, H, hxg, rfl, rfl, HM⟩ := hrel
    by_cases hlt : x < g
    · have hxi : (x : Int) < (g : Int) := by omega
      obtain ⟨vs, hvl, hvn, hHb, gW, hRX⟩ := HM.out
      have hxn : x < ns.length := by rw [HN2.out.1]; exact hlt
      obtain ⟨b', ao, acap, hb', -, cN, -, -, -, -, hNL⟩ := hRX.2.2.2.2.2.2.2 x hxn
      injection hb' with hb'
      injection hb' with hb' _ _
      subst hb'
      obtain ⟨nl, hnl⟩ : ∃ l, l = ns[x] := ⟨_, rfl⟩
      have hnl13 : nl.length ≤ 13 := by rw [hnl, HN2.out.2.2 x hxn]; have := hD.out x; show D x + 1 ≤ 13; omega
      have HNX : Hid (∀ y ∈ nl, y < g) := by show _; rw [hnl]; exact HN2.out.2.1 _ (List.getElem_mem hxn)
      rw [← hnl] at cN hNL
      have GT := (Goes.refl gW.own gW.size).nilRow 3
      have R2 : Hid (M2Rel B w lo fb g (box 45 sb ((shXs rb rounds src (.slice (some ⟨fb, 0, none⟩) g g) corr few fully) (.slice none 0 0) (.slice none 0 0) (.slice none 0 0))) rb q gl sl a0 c0 a1 c1 ob oc nb3 ls ns x ao nl 0 0 wr) := ⟨vs, [], .slice none 0 0, hvl, rfl, hvn x (Nat.le_refl _) hlt, fun j hj hj' => hvn j (by omega) hj', by simp, gW.trans GT, hRX.goes GT, hNL.goes GT⟩
      clear hnl GT gW hRX hNL hvn hvl HM hxn
      go_wp2_with fail
      go_loopw [19, 81] (fun a b wr => ∃ (j : Nat) (S : Int), j ≤ nl.length ∧ a = .int .i64 S ∧ b = .int .i64 (j : Int) ∧ Hid (M2Rel B w lo fb g (box 45 sb ((shXs rb rounds src (.slice (some ⟨fb, 0, none⟩) g g) corr few fully) (.slice none 0 0) (.slice none 0 0) (.slice none 0 0))) rb q gl sl a0 c0 a1 c1 ob oc nb3 ls ns x ao nl j S wr)) (fun _ b _ => nl.length - (intOf b).toNat)
      case atStart => exact ⟨0, 0, Nat.zero_le _, rfl, rfl, R2⟩
      case round =>
        clear R2 cN
        obtain ⟨j, S, hj, rfl, rfl, HM⟩ := hrel
        by_cases hjl : j < nl.length
        · have hji : (j : Int) < (nl.length : Int) := by omega
          obtain ⟨vs, xs, v, hvl, hxl, hvx, hvn, hSb, gW, hRX, hNL⟩ := HM.out
          obtain ⟨lb, hao, -, cj, -⟩ := hNL j hjl
          subst hao
          obtain ⟨h, hh⟩ : ∃ h, h = nl[j] := ⟨_, rfl⟩
          have hhg : h < g := by rw [hh]; exact HNX.out _ (List.getElem_mem hjl)
          rw [← hh] at cj
          unfold iv at cj
          clear hh
          have q3 := gW.own.box_cell 2 rfl 3 rfl
          have cx := gW.cellAt 1 (e := 27) (g := fb) (n := g) (cap := g) (xs := vs) rfl x hvx
          have HV : Hid (vs.length = g ∧ xs.length = j ∧ vs[x]? = some v) := ⟨hvl, hxl, hvx⟩
          have HVN : Hid (∀ j, x + 1 ≤ j → j < g → vs[j]? = some (.slice none 0 0)) := hvn
          have HRX : Hid (RX lo wr [rowOf 3 v xs, rowOf 27 (.slice (some ⟨fb, 0, none⟩) g g) vs, box 45 sb ((shXs rb rounds src (.slice (some ⟨fb, 0, none⟩) g g) corr few fully) (.slice none 0 0) (.slice none 0 0) (.slice none 0 0))] rb q g gl sl a0 c0 a1 c1 ob oc nb3 ls ns) := hRX
          have HNL : Hid (NatsL lo wr [rowOf 3 v xs, rowOf 27 (.slice (some ⟨fb, 0, none⟩) g g) vs, box 45 sb ((shXs rb rounds src (.slice (some ⟨fb, 0, none⟩) g g) corr few fully) (.slice none 0 0) (.slice none 0 0) (.slice none 0 0))] (some ⟨lb, 0, none⟩) nl) := hNL
          have hb1 : xs.length + 1 ≤ 100000000 := by omega
          clear hvl hxl hvx hvn hRX hNL HM
          obtain ⟨wi, rfl⟩ : ∃ x : World, x = wr := ⟨_, rfl⟩
          go_upto_region 14 with fail
          refine wp_region_noPanic ?_
          refine wp_region_till (by kernel_rfl) (fun w' => w'.cell? ⟨fb, x, none⟩ = some v) (fun w' => w'.cell? ⟨sb, 3, none⟩ = some (.slice (some ⟨fb, 0, none⟩) g g)) [16] 17 rfl ?_
          have hS0 : wi.drew.cell? ⟨sb, 3, none⟩ = some (.slice (some ⟨fb, 0, none⟩) g g) := q3
          have hS : wi.drew.cell? ⟨fb, x, none⟩ = some v := cx.1
          have GD := (Goes.refl gW.own gW.size).drew
          obtain ⟨wd, hwd⟩ : ∃ W, W = wi.drew := ⟨_, rfl⟩
          rw [← hwd] at hS0 hS GD ⊢
          clear hwd q3 cx
          refine till_take0 0 (some 85) (v := ?vm0) rfl rfl (by kernel_rfl) (by kernel_rfl) (by kernel_rfl) (fun _ _ _ h => h) (Or.inl ⟨by rfl, ?ym0⟩) hS0 ?rm0
          case ym0 => intro w' t1; go_simp; all_goals with_reducible rfl
          simp only [Act.put, List.setIfInBounds_toArray, List.set_cons_zero, List.set_cons_succ]
          refine till_take0 1 (some 86) (v := ?vm1) rfl rfl (by kernel_rfl) (by kernel_rfl) (by kernel_rfl) (fun _ _ _ h => h) (Or.inl ⟨by rfl, ?ym1⟩) hS0 ?rm1
          case ym1 => intro w' t1; go_simp; all_goals with_reducible rfl
          simp only [Act.put, List.setIfInBounds_toArray, List.set_cons_zero, List.set_cons_succ]
          refine till_take0 2 (some 87) (v := ?vm2) rfl rfl (by kernel_rfl) (by kernel_rfl) (by kernel_rfl) (fun _ _ _ h => h) (Or.inl ⟨by rfl, ?ym2⟩) hS0 ?rm2
          case ym2 => intro w' t1; go_simp; all_goals with_reducible rfl
          simp only [Act.put, List.setIfInBounds_toArray, List.set_cons_zero, List.set_cons_succ]
          refine till_take0 3 (some 88) (v := ?vm3) rfl rfl (by kernel_rfl) (by kernel_rfl) (by kernel_rfl) (fun _ _ _ h => h) (Or.inl ⟨by rfl, ?ym3⟩) hS0 ?rm3
          case ym3 => intro w' t1; go_simp; all_goals with_reducible rfl
          simp only [Act.put, List.setIfInBounds_toArray, List.set_cons_zero, List.set_cons_succ]
          refine till_take0 4 (some 89) (v := ?vm4) rfl rfl (by kernel_rfl) (by kernel_rfl) (by kernel_rfl) (fun _ _ _ h => h) (Or.inl ⟨by rfl, ?ym4⟩) hS0 ?rm4
          case ym4 => intro w' t1; go_simp; all_goals with_reducible rfl
          simp only [Act.put, List.setIfInBounds_toArray, List.set_cons_zero, List.set_cons_succ]
          refine till_take0 5 (some 90) (v := ?vm5) rfl rfl (by kernel_rfl) (by kernel_rfl) (by kernel_rfl) (fun _ _ _ h => h) (Or.inl ⟨by rfl, ?ym5⟩) hS0 ?rm5
          case ym5 => intro w' t1; go_simp; all_goals with_reducible rfl
          simp only [Act.put, List.setIfInBounds_toArray, List.set_cons_zero, List.set_cons_succ]
          refine till_take0 6 (some 91) (v := ?vm6) rfl rfl (by kernel_rfl) (by kernel_rfl) (by kernel_rfl) (fun _ _ _ h => h) (Or.inl ⟨by rfl, ?ym6⟩) hS0 ?rm6
          case ym6 => intro w' t1; go_simp; all_goals with_reducible rfl
          simp only [Act.put, List.setIfInBounds_toArray, List.set_cons_zero, List.set_cons_succ]
          refine till_take0 7 (some 92) (v := ?vm7) rfl rfl (by kernel_rfl) (by kernel_rfl) (by kernel_rfl) (fun _ _ _ h => h) (Or.inl ⟨by rfl, ?ym7⟩) hS0 ?rm7
          case ym7 => intro w' t1; go_simp; all_goals with_reducible rfl
          simp only [Act.put, List.setIfInBounds_toArray, List.set_cons_zero, List.set_cons_succ]
          refine till_take0 8 (some 93) (v := ?vm8) rfl rfl (by kernel_rfl) (by kernel_rfl) (by kernel_rfl) (fun _ _ _ h => h) (Or.inl ⟨by rfl, ?ym8⟩) hS0 ?rm8
          case ym8 => intro w' t1; go_simp; all_goals with_reducible rfl
          simp only [Act.put, List.setIfInBounds_toArray, List.set_cons_zero, List.set_cons_succ]
          refine till_take0 9 (some 94) (v := ?vm9) rfl rfl (by kernel_rfl) (by kernel_rfl) (by kernel_rfl) (fun _ _ _ h => h) (Or.inl ⟨by rfl, ?ym9⟩) hS0 ?rm9
          case ym9 => intro w' t1; go_simp; all_goals with_reducible rfl
          simp only [Act.put, List.setIfInBounds_toArray, List.set_cons_zero, List.set_cons_succ]
          refine till_take0 10 (some 95) (v := ?vm10) rfl rfl (by kernel_rfl) (by kernel_rfl) (by kernel_rfl) (fun _ _ _ h => h) (Or.inl ⟨by rfl, ?ym10⟩) hS0 ?rm10
          case ym10 => intro w' t1; go_simp; all_goals with_reducible rfl
          simp only [Act.put, List.setIfInBounds_toArray, List.set_cons_zero, List.set_cons_succ]
          refine till_take 11 (some 96) (v := ?vm11) rfl rfl (by kernel_rfl) (by kernel_rfl) (by kernel_rfl) (by kernel_rfl) (fun _ _ _ h => h) (Or.inl ⟨by rfl, ?ym11⟩) hS ?rm11
          case ym11 => intro w' t1; go_simp; all_goals with_reducible rfl
          simp only [Act.put, List.setIfInBounds_toArray, List.set_cons_zero, List.set_cons_succ]
          refine till_take0 12 (some 97) (v := ?vm12) rfl rfl (by kernel_rfl) (by kernel_rfl) (by kernel_rfl) (fun _ _ _ h => h) (Or.inl ⟨by rfl, ?ym12⟩) hS0 ?rm12
          case ym12 => intro w' t1; go_simp; all_goals with_reducible rfl
          simp only [Act.put, List.setIfInBounds_toArray, List.set_cons_zero, List.set_cons_succ]
          refine till_one (i := 13) (by kernel_rfl) rfl rfl fun K hK => ?_
          go_simp
          refine hK _ _ (.inr (fun _ => cell_old hS _)) (fun _ => cell_old hS0 _) ?_
          clear hK K
          (try simp only [Act.put, List.setIfInBounds_toArray, List.set_cons_zero, List.set_cons_succ])
          refine till_one (i := 14) (by kernel_rfl) rfl rfl fun K hK => ?_
          refine wp_append_rowK _ rfl (.tmp 96) (.tmp 98) 27 27 rfl B 3 i3 (.int .i64 0) 1 8 Ybaf.underlying27 hi3 hz30 hz31 hz32 rfl v xs.length xs rfl ((GD.rowAt 0 rfl).alloc _) _ 1 [.int .i64 S] rfl (Src.ofSlice (P := Ybaf.prog) (size := 1) (wd.alloc (.cells #[.int .i64 S] 3)) Ybaf.underlying27 ⟨wd.heap.size, 0, none⟩ 1 1 [.int .i64 S] rfl (news_alloc wd [.int .i64 S] 3) (by intro u hu; simp at hu; subst hu; rfl)) (max_ok hb1) (bytes_ok hb1 (by decide)) (by have := GD.size; simp; omega) ?_
          intro v2 w5 h1 h2 h3 h4 h5
          have GA := GD.push 0 rfl rfl h1 h2 (by simpa using h3) (by simpa using h4)
          obtain ⟨va2, vc2, hf2⟩ := h1.form
          subst hf2
          have z3 := GA.own.box_cell 2 rfl 3 rfl
          have cx := (GA.cellAt 1 (e := 27) (g := fb) (n := g) (cap := g) (xs := vs) rfl x HV.out.2.2).1
          have fx := (GA.cellAt 1 (e := 27) (g := fb) (n := g) (cap := g) (xs := vs) rfl x HV.out.2.2).2
          refine hK _ _ (.inr (fun _ => cx)) (fun _ => z3) ?_
          clear hK K h1 h2 h3 h4 h5
          (try simp only [Act.put, List.setIfInBounds_toArray, List.set_cons_zero, List.set_cons_succ])
          refine till_take0 15 (some 100) (v := ?vm15) rfl rfl (by kernel_rfl) (by kernel_rfl) (by kernel_rfl) (fun _ _ _ h => h) (Or.inl ⟨by rfl, ?ym15⟩) z3 ?rm15
          case ym15 => intro w' t1; go_simp; all_goals with_reducible rfl
          simp only [Act.put, List.setIfInBounds_toArray, List.set_cons_zero, List.set_cons_succ]
          have GB := GA.setAt 1 (e := 27) (g := fb) (n := g) (cap := g) (xs := vs) rfl (by decide) x (.slice va2 (xs.length + 1) vc2)
          have zz3 := GB.own.box_cell 2 rfl 3 rfl
          refine till_one (i := 16) (by kernel_rfl) rfl rfl fun K hK => ?_
          go_simp
          refine hK _ _ (.inl (by simp)) (fun _ => zz3) ?_
          clear hK K
          refine till_done (by kernel_rfl) ?_ _
          refine NoPanic.normal ?_
          obtain ⟨w6, hw6⟩ : ∃ W, W = w5.setCell ⟨fb, x, none⟩ (.slice va2 (xs.length + 1) vc2) := ⟨_, rfl⟩
          have GB' : Goes B wi [rowOf 3 v xs, rowOf 27 (.slice (some ⟨fb, 0, none⟩) g g) vs, box 45 sb ((shXs rb rounds src (.slice (some ⟨fb, 0, none⟩) g g) corr few fully) (.slice none 0 0) (.slice none 0 0) (.slice none 0 0))] w6 [rowOf 3 (.slice va2 (xs.length + 1) vc2) (xs ++ [.int .i64 S]), rowOf 27 (.slice (some ⟨fb, 0, none⟩) g g) (vs.set x (.slice va2 (xs.length + 1) vc2)), box 45 sb ((shXs rb rounds src (.slice (some ⟨fb, 0, none⟩) g g) corr few fully) (.slice none 0 0) (.slice none 0 0) (.slice none 0 0))] := by rw [hw6]; exact GB
          have gY := gW.trans GB'
          have HRY : Hid (RX lo w6 [rowOf 3 (.slice va2 (xs.length + 1) vc2) (xs ++ [.int .i64 S]), rowOf 27 (.slice (some ⟨fb, 0, none⟩) g g) (vs.set x (.slice va2 (xs.length + 1) vc2)), box 45 sb ((shXs rb rounds src (.slice (some ⟨fb, 0, none⟩) g g) corr few fully) (.slice none 0 0) (.slice none 0 0) (.slice none 0 0))] rb q g gl sl a0 c0 a1 c1 ob oc nb3 ls ns) := HRX.out.goes GB'
          have HNY : Hid (NatsL lo w6 [rowOf 3 (.slice va2 (xs.length + 1) vc2) (xs ++ [.int .i64 S]), rowOf 27 (.slice (some ⟨fb, 0, none⟩) g g) (vs.set x (.slice va2 (xs.length + 1) vc2)), box 45 sb ((shXs rb rounds src (.slice (some ⟨fb, 0, none⟩) g g) corr few fully) (.slice none 0 0) (.slice none 0 0) (.slice none 0 0))] (some ⟨lb, 0, none⟩) nl) := HNL.out.goes GB'
          rw [← hw6]
          clear hw6 GB GB' GA gW HRX HNL cx fx z3 zz3 GD
          have k0 := gY.own.box_cell 2 rfl 0 rfl
          have k1 := HRY.out.2.2.1.1
          obtain ⟨sb1, ha1, -, d0, -⟩ := HRY.out.2.2.2.1 h (by have := HSLl.out; omega)
          obtain ⟨sb2, ha2, -, d1, -⟩ := HRY.out.2.2.2.1 (h + 1) (by have := HSLl.out; omega)
          rw [ha1] at ha2
          injection ha2 with ha2
          injection ha2 with ha2 _ _
          subst ha2
          subst ha1
          obtain ⟨s0, hs0⟩ : ∃ s, s = sl[h]'(by have := HSLl.out; omega) := ⟨_, rfl⟩
          obtain ⟨s1, hs1⟩ : ∃ s, s = sl[h + 1]'(by have := HSLl.out; omega) := ⟨_, rfl⟩
          have hs0b : s0 ≤ 12 := by rw [hs0]; exact HSLb.out _ (List.getElem_mem _)
          have hs1b : s1 ≤ 12 := by rw [hs1]; exact HSLb.out _ (List.getElem_mem _)
          rw [← hs0] at d0
          rw [← hs1] at d1
          unfold iv at d0 d1
          clear hs0 hs1
          have hw1 : IntKind.i64.wrap ((h : Int) + 1) = (((h + 1 : Nat)) : Int) := by rw [IntKind.wrap_i64]; omega
          have e0i : 0 ≤ (h : Int) + 1 := by omega
          have e1i : (h : Int) + 1 < (g : Int) + 1 := by omega
          have e2i : (h : Int) < (g : Int) + 1 := by omega
          have hws : IntKind.i64.wrap ((s1 : Int) - (s0 : Int)) = (s1 : Int) - (s0 : Int) := by rw [IntKind.wrap_i64]; omega
          have hwS : IntKind.i64.wrap (S + ((s1 : Int) - (s0 : Int))) = S + ((s1 : Int) - (s0 : Int)) := by rw [IntKind.wrap_i64]; omega
          go_wp2_with fail
          go_quiet (fail)
          go_wp2_with fail
          go_roundw
          case rel =>
            have GQ := (Goes.refl gY.own gY.size).drewN nq
            refine ⟨j + 1, S + ((s1 : Int) - (s0 : Int)), hjl, rfl, by go_num, ?_⟩
            refine ⟨(vs.set x (.slice va2 (xs.length + 1) vc2)), (xs ++ [.int .i64 S]), (.slice va2 (xs.length + 1) vc2), by rw [List.length_set]; exact HV.out.1, by simp [HV.out.2.1], by rw [List.getElem?_set_self (by rw [HV.out.1]; exact hlt)], fun i hi hi' => ?_, by omega, gY.trans GQ, HRY.out.goes GQ, HNY.out.goes GQ⟩
            rw [List.getElem?_set_ne (by omega)]
            exact HVN.out i hi hi'
          case measure => simp [intOf]; omega
        · have hji : decide ((j : Int) < (nl.length : Int)) = false := decide_eq_false (by omega)
          obtain ⟨vs, xs, v, hvl, hxl, hvx, hvn, hSb, gW, hRX, hNL⟩ := HM.out
          have k0 := gW.own.box_cell 2 rfl 0 rfl
          have k1 := hRX.2.2.1.1
          obtain ⟨sb1, ha1, -, d0, -⟩ := hRX.2.2.2.1 x (by have := HSLl.out; omega)
          obtain ⟨sb2, ha2, -, d1, -⟩ := hRX.2.2.2.1 (x + 1) (by have := HSLl.out; omega)
          rw [ha1] at ha2
          injection ha2 with ha2
          injection ha2 with ha2 _ _
          subst ha2
          subst ha1
          obtain ⟨s0, hs0⟩ : ∃ s, s = sl[x]'(by have := HSLl.out; omega) := ⟨_, rfl⟩
          obtain ⟨s1, hs1⟩ : ∃ s, s = sl[x + 1]'(by have := HSLl.out; omega) := ⟨_, rfl⟩
          have hs0b : s0 ≤ 12 := by rw [hs0]; exact HSLb.out _ (List.getElem_mem _)
          have hs1b : s1 ≤ 12 := by rw [hs1]; exact HSLb.out _ (List.getElem_mem _)
          rw [← hs0] at d0
          rw [← hs1] at d1
          unfold iv at d0 d1
          clear hs0 hs1
          have hw1 : IntKind.i64.wrap ((x : Int) + 1) = (((x + 1 : Nat)) : Int) := by rw [IntKind.wrap_i64]; omega
          have e0i : 0 ≤ (x : Int) + 1 := by omega
          have e1i : (x : Int) + 1 < (g : Int) + 1 := by omega
          have e2i : (x : Int) < (g : Int) + 1 := by omega
          have hws : IntKind.i64.wrap ((s1 : Int) - (s0 : Int)) = (s1 : Int) - (s0 : Int) := by rw [IntKind.wrap_i64]; omega
          have hwS : IntKind.i64.wrap (S - 1) = S - 1 := by rw [IntKind.wrap_i64]; omega
          have hpb := mul_bound (a := (s1 : Int) - (s0 : Int)) (b := S - 1) (by omega) (by omega)
          obtain ⟨P, hP⟩ : ∃ P, P = ((s1 : Int) - (s0 : Int)) * (S - 1) := ⟨_, rfl⟩
          rw [← hP] at hpb
          have hwp : IntKind.i64.wrap (((s1 : Int) - (s0 : Int)) * (S - 1)) = P := by rw [← hP, IntKind.wrap_i64]; omega
          have hwH : IntKind.i64.wrap (H + P) = H + P := by rw [IntKind.wrap_i64]; omega
          have HVN : Hid (∀ j, x + 1 ≤ j → j < g → vs[j]? = some (.slice none 0 0)) := hvn
          have HRX : Hid (RX lo wr [rowOf 3 v xs, rowOf 27 (.slice (some ⟨fb, 0, none⟩) g g) vs, box 45 sb ((shXs rb rounds src (.slice (some ⟨fb, 0, none⟩) g g) corr few fully) (.slice none 0 0) (.slice none 0 0) (.slice none 0 0))] rb q g gl sl a0 c0 (some ⟨sb1, 0, none⟩) c1 ob oc nb3 ls ns) := hRX
          have HVl : Hid (vs.length = g) := hvl
          clear hP hvn hRX hvl hxl hvx hNL HM
          go_wp2_with fail
          go_quiet (fail)
          go_wp2_with fail
          go_roundw
          case rel =>
            have GQ := ((Goes.refl gW.own gW.size).tail).drewN nq
            refine ⟨x + 1, H + P, hlt, rfl, by go_num, ?_⟩
            exact ⟨vs, HVl.out, HVN.out, by push_cast; omega, gW.trans GQ, HRX.out.goes GQ⟩
          case measure => simp [intOf]; omega
    · have hxi : decide ((x : Int) < (g : Int)) = false := decide_eq_false (by omega)
      have hxe : x = g := by omega
      subst hxe
      obtain ⟨g, hgx⟩ : ∃ g, g = x := ⟨_, rfl⟩
      subst hgx
      obtain ⟨vs, hvl, -, hHb, gW, hRX⟩ := HM.out
      have gB := gW.trans ((Goes.refl gW.own gW.size).tail)
      have HRB : Hid (RX lo wr [box 45 sb ((shXs rb rounds src (.slice (some ⟨fb, 0, none⟩) g g) corr few fully) (.slice none 0 0) (.slice none 0 0) (.slice none 0 0))] rb q g gl sl a0 c0 a1 c1 ob oc nb3 ls ns) := hRX.goes ((Goes.refl gW.own gW.size).tail)
      have k0 := gB.own.box_cell 0 rfl 0 rfl
      have k12 := gB.own.box_cell 0 rfl 12 rfl
      have k13 := gB.own.box_cell 0 rfl 13 rfl
      have f12 := gB.own.box_frozen 0 rfl 12 (by simp [shXs])
      have f13 := gB.own.box_frozen 0 rfl 13 (by simp [shXs])
      have r0 := hRX.1.1
      have hgll : src < gl.length := by rw [HGL.out, groupL_length, ← HQ.out]; exact hsrc
      obtain ⟨gb, ha0, -, dg, -⟩ := hRX.2.1 src hgll
      have hglv : gl[src] = gs := by
        have := HGS.out
        rw [← HGL.out, List.getElem?_eq_getElem hgll] at this
        injection this
      rw [hglv] at dg
      unfold iv at dg
      subst ha0
      have hsi : (src : Int) < (q : Int) := by omega
      have hwg : IntKind.i32.wrap (gs : Int) = (gs : Int) := by rw [IntKind.wrap_i32]; omega
      obtain ⟨RQ, hRQ⟩ : ∃ P, P = rounds * (q : Int) := ⟨_, rfl⟩
      have hRQb : 0 ≤ RQ ∧ RQ ≤ 48 := by
        rw [hRQ]
        obtain h | h | h | h | h : rounds = 0 ∨ rounds = 1 ∨ rounds = 2 ∨ rounds = 3 ∨ rounds = 4 := by omega
        all_goals (subst h; omega)
      have hw1 : IntKind.i64.wrap (rounds * (q : Int)) = RQ := by rw [← hRQ, IntKind.wrap_i64]; omega
      have hw2 : IntKind.i64.wrap (RQ + (q : Int)) = RQ + (q : Int) := by rw [IntKind.wrap_i64]; omega
      have hw3 : IntKind.i64.wrap (RQ + (q : Int) + H) = RQ + (q : Int) + H := by rw [IntKind.wrap_i64]; omega
      have hgt : decide (268435456 < RQ + (q : Int) + H) = false := decide_eq_false (by omega)
      have gA := fun (o1 o2 o3 o4 : Obj) => (((gB.alloc o1).alloc o2).alloc o3).alloc o4
      have cA12 := fun (o1 o2 o3 o4 : Obj) => (gA o1 o2 o3 o4).own.box_cell 0 rfl 12 rfl
      have fA12 := fun (o1 o2 o3 o4 : Obj) => (gA o1 o2 o3 o4).own.box_frozen 0 rfl 12 (by simp [shXs])
      have gS := fun (o1 o2 o3 o4 : Obj) (v : Value) => (gA o1 o2 o3 o4).setBox 0 rfl (by decide) 12 (by simp [shXs]) v
      have cA13 := fun (o1 o2 o3 o4 : Obj) (v : Value) => (gS o1 o2 o3 o4 v).own.box_cell 0 rfl 13 rfl
      have fA13 := fun (o1 o2 o3 o4 : Obj) (v : Value) => (gS o1 o2 o3 o4 v).own.box_frozen 0 rfl 13 (by simp [shXs])
      clear hRX hglv hgll hRQ hvl gW HM gS gA k12 k13 f12 f13
      obtain ⟨w2, rfl⟩ : ∃ x : World, x = wr := ⟨_, rfl⟩
      go_upto_region 23 with fail
      have HC := root_rel (W := RQ + (q : Int) + H) hgs (by omega) gB (ps := ps) (D := D) ⟨some ⟨gb, 0, none⟩, c0, a1, c1, ob, oc, nb3, ls, ns, by rw [← HQ.out]; exact HRB.out.1, by rw [← HGL.out]; exact HRB.out.2.1, by rw [← HG.out]; exact HRB.out.2.2.1, by rw [← HSL.out]; exact HRB.out.2.2.2.1, by rw [← HG.out]; exact HRB.out.2.2.2.2.1, by rw [← HG.out]; exact HN1.out, HRB.out.2.2.2.2.2.1, by rw [← HG.out]; exact HRB.out.2.2.2.2.2.2.1, by rw [← HG.out]; exact HN2.out, HRB.out.2.2.2.2.2.2.2⟩
      obtain ⟨w3, hw3⟩ : ∃ W, W = ((((((w2.alloc (Obj.cells #[Value.int IntKind.i32 (gs : Int)] 21)).alloc (Obj.cells #[Value.slice (some { block := w2.heap.size, off := 0 }) 1 1] 47)).alloc (Obj.cells #[Value.int IntKind.i32 (-1)] 21)).alloc (Obj.cells #[Value.slice (some { block := w2.heap.size + 1 + 1, off := 0 }) 1 1] 47)).setCell { block := sb, off := 12 } (Value.slice (some { block := w2.heap.size + 1, off := 0 }) 1 1)).setCell { block := sb, off := 13 } (Value.slice (some { block := w2.heap.size + 1 + 1 + 1, off := 0 }) 1 1)) := ⟨_, rfl⟩
      rw [← hw3] at HC ⊢
      clear hw3 HRB gB cA12 fA12 cA13 fA13 k0 r0 dg
      have HHC : Hid (C3Rel B w g lo rb sb ps D gs (shXs rb rounds src (.slice (some ⟨fb, 0, none⟩) g g) corr few fully) 0 (RQ + (q : Int) + H) w3) := HC
      clear HC
      have hwr : IntKind.i64.wrap (rounds - 1) = rounds - 1 := by rw [IntKind.wrap_i64]; omega
      go_upto_if 186 with fail
      go_cut [23] (fun s23 wx => s23 = .int .i64 lev ∧ w3 = wx)
      case first =>
        cases corr
        · go_wp2_with fail
          go_meet
          exact ⟨by rw [HLV.out]; rfl, rfl⟩
        · go_wp2_with fail
          go_meet
          exact ⟨by rw [HLV.out]; rfl, rfl⟩
      case rest =>
        obtain ⟨rfl, rfl⟩ := hcut
        rename_i KK hKK
        refine hKK _ _ ?_
        exact shape_tree B nb src sb rb g q lo gs ps D rounds few lev H (RQ + (q : Int) + H) corr fully (.slice (some ⟨fb, 0, none⟩) g g) w w3 _ _ _ _ _ _ _ _ _ _ _ _ _ _ _ _ _ _ _ _ _ _ _ _ _ _ _ _ _ _ _ _ _ _ _ _ _ _ _ _ _ _ _ _ _ _ _ _ _ _ _ _ _ _ _ _ _ _ _ _ _ _ _ _ _ _ _ _ _ _ _ _ _ _ _ _ _ _ _ _ _ _ _ _ _ _ _ _ _ _ _ _ _ _ _ _ _ _ _ _ _ _ _ _ _ _ _ _ _ _ _ _ _ _ _ _ _ _ _ _ _ _ _ _ _ _ _ _ _ _ _ _ _ _ _ _ _ _ _ _ _ _ _ _ _ _ _ _ _ _ _ _ _ _ _ _ _ _ _ _ _ _ _ _ _ _ _ _ _ _ _ _ _ _ _ _ _ _ _ _ _ _ _ _ _ _ _ _ _ _ _ _ _ _ _ _ _ _ _ _ _ _ _ _ _ _ _ _ _ _ _ _ _ _ _ _ _ _ _ _ _ _ _ _ _ _ _ _ _ _ _ _ _ _ _ _ _ _ _ _ _ _ _ _ _ _ _ _ _ _ _ _ _ _ _ _ _ _ _ _ _ _ _ _ _ _ _ _ _ _ _ _ _ _ _ _ _ _ _ _ _ _ _ HG hg4 HQ hq hsrc hD (by have := HLV.out; cases corr <;> simp at this <;> omega) (by omega) HHC.out

end Go.Proofs.YbulkaxksFmt
