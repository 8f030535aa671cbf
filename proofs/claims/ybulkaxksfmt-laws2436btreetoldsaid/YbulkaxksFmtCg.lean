/-
  childGroups.
-/
import Derived.Test.YbulkaxksFmtSh
set_option linter.unusedVariables false
set_option linter.unusedSimpArgs false
namespace Go.Proofs.YbulkaxksFmt
open Go.RowKit

def CellS (w : World) (L : List RowS) (a : Addr) (v : Value) : Prop := w.cell? a = some v ∧ Safe L a
theorem CellS.goes {B : Nat} {w w' : World} {L L' : List RowS} {a : Addr} {v : Value} (h : CellS w L a v) (hg : Goes B w L w' L') : CellS w' L' a v := hg.safe _ _ h.1 h.2

/-- What a reach holds, and no step on the rows of L writes there. -/
def ReachL (lo : Nat) (w : World) (L : List RowS) (rb : Nat) (ps : List Nat) (D : Nat → Nat) : Prop :=
  ∃ (a0 : Option Addr) (c0 : Nat) (a1 : Option Addr) (c1 ob oc nb : Nat) (ls ns : List (List Nat)),
    CellS w L ⟨rb, 0, none⟩ (.slice a0 ps.sum c0) ∧ NatsL lo w L a0 (groupL 0 ps) ∧ CellS w L ⟨rb, 1, none⟩ (.slice a1 (ps.length + 1) c1) ∧ NatsL lo w L a1 (startsL 0 ps ++ [ps.sum]) ∧
    CellS w L ⟨rb, 2, none⟩ (.slice (some ⟨ob, 0, none⟩) ps.length oc) ∧ NbOk ps.length D ls ∧ NatssL lo w L (some ⟨ob, 0, none⟩) ls ∧
    CellS w L ⟨rb, 3, none⟩ (.slice (some ⟨nb, 0, none⟩) ps.length ps.length) ∧ NbOk ps.length (fun a => D a + 1) ns ∧ NatssL lo w L (some ⟨nb, 0, none⟩) ns
theorem ReachL.goes {B lo : Nat} {w w' : World} {L L' : List RowS} {rb : Nat} {ps : List Nat} {D : Nat → Nat} (h : ReachL lo w L rb ps D) (hg : Goes B w L w' L') : ReachL lo w' L' rb ps D := by
  obtain ⟨a0, c0, a1, c1, ob, oc, nb, ls, ns, h1, h2, h3, h4, h5, h6, h7, h8, h9, h10⟩ := h
  exact ⟨a0, c0, a1, c1, ob, oc, nb, ls, ns, h1.goes hg, h2.goes hg, h3.goes hg, h4.goes hg, h5.goes hg, h6, h7.goes hg, h8.goes hg, h9, h10.goes hg⟩
theorem ReachL.of_lo {lo : Nat} {w : World} {L : List RowS} {rb : Nat} {ps : List Nat} {D : Nat → Nat} (h : ReachAt w lo rb ps D) (hL : ∀ i (hi : i < L.length) k, (L[i]).v.ownBlock = some k → k < lo) : ReachL lo w L rb ps D := by
  obtain ⟨a0, c0, a1, c1, ob, oc, nb, ls, ns, h0, h1, h2, h3, h4, h5, h6, h7, h8, h9, h10⟩ := h
  exact ⟨a0, c0, a1, c1, ob, oc, nb, ls, ns, ⟨h1, safe_lo hL h0⟩, .of_lo h2 (Nat.le_refl _) hL, ⟨h3, safe_lo hL h0⟩, .of_lo h4 (Nat.le_refl _) hL, ⟨h5, safe_lo hL h0⟩, h6, .of_lo h7 (Nat.le_refl _) hL, ⟨h8, safe_lo hL h0⟩, h9, .of_lo h10 (Nat.le_refl _) hL⟩

theorem NatsL.lower {lo lo' : Nat} {w : World} {L : List RowS} {a : Option Addr} {l : List Nat} (h : NatsL lo w L a l) (hl : lo' ≤ lo) : NatsL lo' w L a l := fun j hj => by
  obtain ⟨b, h1, h0, h2, h3⟩ := h j hj
  exact ⟨b, h1, by omega, h2, h3⟩

/-- Its loop. -/
def CgRel (w : World) (g : Nat) (ll : List Nat) (a b c : Value) (wr : World) : Prop :=
  ∃ (j : Nat) (dl al : List Nat), j ≤ ll.length ∧ c = .int .i64 (j : Int) ∧ dl.length ≤ j ∧ al.length ≤ j ∧ (∀ x ∈ dl, x < g) ∧ (∀ x ∈ al, x < g) ∧ Goes w.heap.size w [] wr [rowOf 3 a (ivs dl), rowOf 3 b (ivs al)]

/-- What childGroups gives. -/
def CgPost (w : World) (L : List RowS) (g : Nat) (e : Ending) (w' : World) : Prop :=
  ∃ (a : Option Addr) (lst : List Nat) (cap : Nat), e = .returned (.slice a lst.length cap) ∧ lst.length ≤ 13 ∧ (∀ x ∈ lst, x < g) ∧ NatsL 0 w' L a lst ∧ Below w.heap.size w w'

set_option maxRecDepth 100000 in
set_option maxHeartbeats 1000000 in
theorem child_any (sb rb l c en src lo : Nat) (few : Int) (fully : Bool) (ps : List Nat) (D : Nat → Nat) (L : List RowS) (LS PS : List (List Int)) (w : World)
    (k0 : w.cell? ⟨sb, 0, none⟩ = some (.pointer (some ⟨rb, 0, none⟩))) (k2 : w.cell? ⟨sb, 2, none⟩ = some (.int .i64 (src : Int))) (k8 : w.cell? ⟨sb, 8, none⟩ = some (.int .i64 few)) (k9 : w.cell? ⟨sb, 9, none⟩ = some (.bool fully))
    (HR : Hid (ReachL lo w L rb ps D)) (hsrc : src < ps.sum) (hp4 : ps.length ≤ 4) (hps : ps.sum ≤ 12) (hD : Hid (∀ a, D a ≤ 12)) (HT : Hid (TreeAt w sb LS PS)) (HOK : Hid (TreeOk ps.length LS PS)) (HL : Hid (∃ hl : l < LS.length, c < (LS[l]'hl).length)) (hn : Hid (LS.length ≤ 10)) (hcs : Hid (∀ l ∈ LS, l.length ≤ 10000))
    (hen : en < ps.length) (hl4 : l ≤ 10) (hown : Hid (∀ i (hi : i < L.length) k, (L[i]).v.ownBlock = some k → k < w.heap.size)) :
    Calls Ybaf.prog 17 #[.pointer (some ⟨sb, 0, none⟩), .int .i64 (l : Int), .int .i64 (c : Int), .int .i64 (en : Int)] w (CgPost w L ps.length) := by
  obtain ⟨i3, hi3, hz30, hz31, hz32⟩ := info_parts Ybaf.kinfo3
  obtain ⟨a0, c0, a1, c1, ob, oc, nb, ls, ns, ⟨r0, -⟩, hn0, ⟨r1, -⟩, hn1, ⟨r2, -⟩, hok1, hls, ⟨r3, -⟩, hok2, hns⟩ := HR.out
  obtain ⟨g, hg⟩ : ∃ g, g = ps.length := ⟨_, rfl⟩
  have HG : Hid (g = ps.length) := hg
  rw [← hg] at r1 r2 r3 hok1 hok2 hp4 hen HOK ⊢
  have hge : en < ls.length := by rw [hok1.1]; exact hen
  have hge2 : en < ns.length := by rw [hok2.1]; exact hen
  obtain ⟨b', ao, acap, hb', -, cL, -, -, -, -, hNL⟩ := hls en hge
  injection hb' with hb'
  injection hb' with hb' _ _
  subst hb'
  obtain ⟨b', no, ncap, hb', -, cN, -, -, -, -, hNN⟩ := hns en hge2
  injection hb' with hb'
  injection hb' with hb' _ _
  subst hb'
  obtain ⟨ll, hll⟩ : ∃ x, x = ls[en] := ⟨_, rfl⟩
  obtain ⟨nl, hnl⟩ : ∃ x, x = ns[en] := ⟨_, rfl⟩
  have h1 : ll.length ≤ 12 := by rw [hll, hok1.2.2 en hge]; exact hD.out en
  have h2 : nl.length ≤ 13 := by rw [hnl, hok2.2.2 en hge2]; have := hD.out en; show D en + 1 ≤ 13; omega
  have HLX : Hid (∀ x ∈ ll, x < g) := by show _; rw [hll]; exact hok1.2.1 _ (List.getElem_mem hge)
  have HNX : Hid (∀ x ∈ nl, x < g) := by show _; rw [hnl]; exact hok2.2.1 _ (List.getElem_mem hge2)
  rw [← hll] at cL hNL
  rw [← hnl] at cN hNN
  have HNL : Hid (NatsL lo w L ao ll) := hNL
  have HNN : Hid (NatsL lo w L no nl) := hNN
  obtain ⟨SL, hSL⟩ : ∃ l, l = startsL 0 ps ++ [ps.sum] := ⟨_, rfl⟩
  have hSLl : SL.length = g + 1 := by rw [hSL, List.length_append, startsL_length, hg]; rfl
  rw [← hSL] at hn1
  obtain ⟨sb1, ha1, -, d0, -⟩ := hn1 en (by omega)
  obtain ⟨sb2, ha2, -, d1, -⟩ := hn1 (en + 1) (by omega)
  rw [ha1] at ha2
  injection ha2 with ha2
  injection ha2 with ha2 _ _
  subst ha2
  subst ha1
  obtain ⟨s0, hs0⟩ : ∃ s, s = SL[en]'(by omega) := ⟨_, rfl⟩
  obtain ⟨s1, hs1⟩ : ∃ s, s = SL[en + 1]'(by omega) := ⟨_, rfl⟩
  rw [← hs0] at d0
  rw [← hs1] at d1
  unfold iv at d0 d1
  have hgl : src < (groupL 0 ps).length := by rw [groupL_length]; exact hsrc
  obtain ⟨gb, hga, -, dg, -⟩ := hn0 src hgl
  subst hga
  obtain ⟨gs, hgs⟩ : ∃ x, x = (groupL 0 ps)[src] := ⟨_, rfl⟩
  rw [← hgs] at dg
  unfold iv at dg
  have hw1 : IntKind.i64.wrap ((en : Int) + 1) = (((en + 1 : Nat)) : Int) := by rw [IntKind.wrap_i64]; omega
  have e0i : 0 ≤ (en : Int) + 1 := by omega
  have e1i : (en : Int) + 1 < (g : Int) + 1 := by omega
  have e2i : (en : Int) < (g : Int) + 1 := by omega
  have e3i : (en : Int) < (g : Int) := by omega
  have hsi : (src : Int) < (ps.sum : Int) := by omega
  obtain ⟨q, hq⟩ : ∃ q, q = ps.sum := ⟨_, rfl⟩
  rw [← hq] at r0 hsi
  have HQ : Hid (q = ps.sum) := hq
  clear hll hnl hNL hNN hSL hSLl hn1 hs0 hs1 hgs hgl hn0 hg hok1 hok2 hls hns hge hge2 hq HR
  by_cases hl0 : l = 0
  · subst hl0
    by_cases hone : wrap64 ((s1 : Int) - (s0 : Int)) = 1
    · have hone' : IntKind.i64.wrap ((s1 : Int) - (s0 : Int)) = 1 := by rw [i64w]; exact hone
      go_enter Ybaf.func17, Ybaf.ntmps17
      go_wp2_with fail
      go_quiet (fail)
      go_wp2_with fail
      go_ret
      exact ⟨ao, ll, acap, rfl, by omega, HLX.out, HNL.out.lower (Nat.zero_le _), ⟨rfl, rfl, rfl, Nat.le_refl _, fun _ _ => rfl⟩⟩
    · have hone' : (IntKind.i64.wrap ((s1 : Int) - (s0 : Int)) == 1) = false := by rw [i64w, beq_eq_false_iff_ne]; exact hone
      go_enter Ybaf.func17, Ybaf.ntmps17
      go_wp2_with fail
      go_quiet (fail)
      go_wp2_with fail
      go_ret
      exact ⟨no, nl, ncap, rfl, by omega, HNX.out, HNN.out.lower (Nat.zero_le _), ⟨rfl, rfl, rfl, Nat.le_refl _, fun _ _ => rfl⟩⟩
  · have hlf : ((l : Int) == 0) = false := by rw [beq_eq_false_iff_ne]; omega
    have cg0 := (Goes.refl (Own.nil w w.heap.size) (Nat.le_refl _))
    go_enter Ybaf.func17, Ybaf.ntmps17
    go_upto_if 62 with fail
    go_cut [9] (fun s9 wx => (∃ z : Int, s9 = .int .i64 z) ∧ Goes w.heap.size w [] wx [])
    case first =>
      cases fully
      · go_wp2_with fail
        go_meet
        exact ⟨⟨_, rfl⟩, cg0⟩
      · go_wp2_with fail
        go_quiet (fail)
        go_wp2_with fail
        go_meet
        exact ⟨⟨_, rfl⟩, cg0.drewN _⟩
    case rest =>
      obtain ⟨⟨z, rfl⟩, gC⟩ := hcut
      obtain ⟨w1, rfl⟩ : ∃ x : World, x = wc := ⟨_, rfl⟩
      have k0' := Below.cellK gC.below k0
      have k8' := Below.cellK gC.below k8
      have r2' := Below.cellK gC.below r2
      have cL' := Below.cellK gC.below cL
      clear k2 k9 r0 r1 r3 d0 d1 dg cN
      go_wp2_with fail
      go_loopw [10, 11, 87] (fun a b c wr => CgRel w g ll a b c wr) (fun _ _ c _ => ll.length - (intOf c).toNat)
      case atStart => exact ⟨0, [], [], Nat.zero_le _, rfl, Nat.le_refl _, Nat.le_refl _, (fun x hx => (by cases hx)), (fun x hx => (by cases hx)), (gC.nilRow 3).nilRow 3⟩
      case round =>
        obtain ⟨j, dl, al, hj, rfl, hdl, hal, hdx, hax, gW⟩ := hrel
        by_cases hjl : j < ll.length
        · have hji : (j : Int) < (ll.length : Int) := by omega
          obtain ⟨lb, rfl, -, cj, -⟩ := HNL.out j hjl
          obtain ⟨h, hh⟩ : ∃ h, h = ll[j] := ⟨_, rfl⟩
          have hhg : h < g := by rw [hh]; exact HLX.out _ (List.getElem_mem hjl)
          rw [← hh] at cj
          unfold iv at cj
          clear hh
          have cj' := Below.cellK gW.below cj
          have HDX : Hid (∀ x ∈ dl, x < g) := hdx
          have HAX : Hid (∀ x ∈ al, x < g) := hax
          clear hdx hax cj
          have hb1 : (ivs al).length + 1 ≤ 100000000 := by rw [ivs_length]; omega
          have hb2 : (ivs dl).length + 1 ≤ 100000000 := by rw [ivs_length]; omega
          obtain ⟨wi, rfl⟩ : ∃ x : World, x = wr := ⟨_, rfl⟩
          by_cases hsk : (h : Int) = z
          · have hskb : ((h : Int) == z) = true := by rw [beq_iff_eq]; exact hsk
            go_wp2_with fail
            go_roundw
            case rel => exact ⟨j + 1, dl, al, hjl, by go_num, by omega, by omega, HDX.out, HAX.out, gW⟩
            case measure => simp [intOf]; omega
          · have hskb : ((h : Int) == z) = false := by rw [beq_eq_false_iff_ne]; exact hsk
            have hsrc1 := Src.ofSlice (P := Ybaf.prog) (size := 1) (wi.alloc (.cells #[.int .i64 (h : Int)] 3)) Ybaf.underlying27 ⟨wi.heap.size, 0, none⟩ 1 1 [.int .i64 (h : Int)] rfl (news_alloc wi [.int .i64 (h : Int)] 3) (by intro u hu; simp at hu; subst hu; rfl)
            go_upto_region 14 with (at_builtin; refine wpList_append_rowK _ rfl (.tmp 94) (.tmp 96) 27 27 rfl w.heap.size 3 i3 (.int .i64 0) 1 8 Ybaf.underlying27 hi3 hz30 hz31 hz32 rfl u11 (ivs al).length (ivs al) rfl ((gW.rowAt 1 rfl).alloc _) _ 1 [.int .i64 (h : Int)] rfl hsrc1 (max_ok hb1) (bytes_ok hb1 (by decide)) (by have := gW.size; simp; omega) ?_; intro av1 w3 h1 h2 h3 h4 h5)
            have gX := gW.push 1 rfl rfl h1 h2 (by simpa using h3) (by simpa using h4)
            clear h1 h2 h3 h4 h5
            have hT3 : TreeAt w3 sb LS PS := HT.out.below gX.below
            obtain ⟨hl1, hl2⟩ := HL.out
            have HON := onName_any sb l c h g LS PS w3 hT3 HOK.out hl1 hl2 hn.out (by omega) hcs
            clear hT3 hl1 hl2
            have e1 : ivs al ++ [Value.int .i64 (h : Int)] = ivs (al ++ [h]) := by simp [ivs, iv]
            have hax1 : Hid (∀ x ∈ al ++ [h], x < g) := fun x hx => by
              rcases List.mem_append.1 hx with h' | h'
              · exact HAX.out x h'
              · simp at h'; omega
            have hal1 : (al ++ [h]).length ≤ j + 1 := by simp; omega
            go_upto_if 103 with (go_at_call 25; refine HON.mono ?_; rintro e w4 ⟨bb, rfl, rfl⟩)
            cases bb
            · have hsrc2 := Src.ofSlice (P := Ybaf.prog) (size := 1) (w3.alloc (.cells #[.int .i64 (h : Int)] 3)) Ybaf.underlying27 ⟨w3.heap.size, 0, none⟩ 1 1 [.int .i64 (h : Int)] rfl (news_alloc w3 [.int .i64 (h : Int)] 3) (by intro u hu; simp at hu; subst hu; rfl)
              go_wp2_with (at_builtin; refine wpList_append_rowK _ rfl (.tmp 104) (.tmp 106) 27 27 rfl w.heap.size 3 i3 (.int .i64 0) 1 8 Ybaf.underlying27 hi3 hz30 hz31 hz32 rfl u10 (ivs dl).length (ivs dl) rfl ((gX.rowAt 0 rfl).alloc _) _ 1 [.int .i64 (h : Int)] rfl hsrc2 (max_ok hb2) (bytes_ok hb2 (by decide)) (by have := gX.size; simp; omega) ?_; intro dv1 w5 h1 h2 h3 h4 h5)
              go_roundw
              case rel =>
                have gY := gX.push 0 rfl rfl h1 h2 (by simpa using h3) (by simpa using h4)
                have e2 : ivs dl ++ [Value.int .i64 (h : Int)] = ivs (dl ++ [h]) := by simp [ivs, iv]
                rw [e1, e2] at gY
                refine ⟨j + 1, dl ++ [h], al ++ [h], hjl, by go_num, by simp; omega, hal1, fun x hx => ?_, hax1.out, gY⟩
                rcases List.mem_append.1 hx with h' | h'
                · exact HDX.out x h'
                · simp at h'; omega
              case measure => simp [intOf]; omega
            · go_wp2_with fail
              go_roundw
              case rel =>
                rw [e1] at gX
                exact ⟨j + 1, dl, al ++ [h], hjl, by go_num, by omega, hal1, HDX.out, hax1.out, gX⟩
              case measure => simp [intOf]; omega
        · have hji : decide ((j : Int) < (ll.length : Int)) = false := decide_eq_false (by omega)
          have k8'' := Below.cellK gW.below k8
          obtain ⟨da, dc, hdf⟩ := (gW.rowAt 0 rfl).form
          obtain ⟨aa, ac, haf⟩ := (gW.rowAt 1 rfl).form
          rw [ivs_length] at hdf haf
          subst hdf
          subst haf
          have HDX : Hid (∀ x ∈ dl, x < g) := hdx
          have HAX : Hid (∀ x ∈ al, x < g) := hax
          have rd : RowM wr w.heap.size 3 1 (.slice da dl.length dc) (ivs dl).length (ivs dl) := gW.own.get 0 rfl
          have ra : RowM wr w.heap.size 3 1 (.slice aa al.length ac) (ivs al).length (ivs al) := gW.own.get 1 rfl
          clear hdx hax
          by_cases hlt : (dl.length : Int) < few
          · have hltb : decide ((dl.length : Int) < few) = true := decide_eq_true hlt
            go_wp2_with fail
            go_ret
            exact ⟨aa, al, ac, rfl, by omega, HAX.out, NatsL.of_lo (natsAt_row ra) (Nat.zero_le _) hown.out, gW.below⟩
          · have hltb : decide ((dl.length : Int) < few) = false := decide_eq_false hlt
            go_wp2_with fail
            go_ret
            exact ⟨da, dl, dc, rfl, by omega, HDX.out, NatsL.of_lo (natsAt_row rd) (Nat.zero_le _) hown.out, gW.below⟩

end Go.Proofs.YbulkaxksFmt
