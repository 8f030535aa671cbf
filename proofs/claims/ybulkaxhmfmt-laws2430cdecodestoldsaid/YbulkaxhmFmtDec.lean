/-
  The walk of LawS2430CDecodes.
-/
import Derived.Test.YbulkaxhmFmtAgree
set_option linter.unusedVariables false
set_option linter.unusedSimpArgs false
namespace Go.Proofs.YbulkaxhmFmt
open Go.Extern.Stop Go.Stop Go.Extern Go.RowKit

set_option maxRecDepth 100000 in
set_option maxHeartbeats 1000000 in
theorem dec_any (F : Interp) (fl : UInt8) (qao : Option Addr) (qs : List QV) (qcap : Nat) (oao : Option Addr) (ots : List Int) (ocap : Nat) (has : Bool) (pao : Option Addr) (ops : List OV) (pcap : Nat) (w : World) (hF : F.answers w.tape)
    (hq : Hid (QsAt w qao qs)) (ho : Hid (IntsAt w .u16 oao ots)) (hoz : Hid (∀ z ∈ ots, 0 ≤ z ∧ z ≤ 65535)) (hp : Hid (OsAt w pao ops)) (hql : qs.length ≤ maxLen) (hol : ots.length ≤ maxLen) (hpl : ops.length ≤ maxLen) :
    Calls Ybaf.prog 5 #[.int .u8 (fl.toNat : Int), .slice qao qs.length qcap, .slice oao ots.length ocap, .bool has, .slice pao ops.length pcap] w fun e w' => e = .returned (.bool true) ∧ Below w.heap.size w w' := by
  go_enter Ybaf.func5, Ybaf.ntmps5
  go_wp2_with fail
  go_at_call 10
  refine (small_any qao qs qcap oao ots.length ocap pao ops.length pcap w hq hql hol hpl).mono ?_
  rintro e w1 ⟨b, rfl, hb1, hsm⟩
  cases b
  · go_wp2
    go_ret
    exact ⟨rfl, hb1⟩
  · have hS := hsm rfl
    clear hsm
    cases has
    · have hW := wf_built (hq.out.later hb1) hoz.out (hp.out.later hb1) hS (nopt := 0) (by omega)
      have HW : Hid (WF (qs.map mqV) (rsB ots 0 ops) ots.length 0 (ops.map oP)) := hW
      have HP1 : Hid (OsAt w1 pao ops) := hp.out.later hb1
      have hbd : Hid (∀ j (hj : j < qs.length), 0 ≤ qs[j].ty ∧ qs[j].ty ≤ 65535 ∧ 0 ≤ qs[j].cl ∧ qs[j].cl ≤ 65535) := fun j hj => by
        obtain ⟨b, off, _, _, _, _, _, _, _, h1, h2, h3, h4⟩ := hq.out j hj
        exact ⟨h1, h2, h3, h4⟩
      have hql2 : qs.length ≤ 1000 := by have := hS.1; omega
      have hpl2 : ops.length ≤ 1000 := by have := hS.2.2.1; omega
      clear hW
      go_wp2_with fail
      go_at_call 11
      refine (build_any fl qao qs qcap oao ots ocap 0 pao ops pcap w1 (hq.out.later hb1) (ho.out.later hb1) hoz (hp.out.later hb1) hS (by omega)).mono ?_
      rintro e w2 ⟨mv, nv, tv, cv, ov, dv, M, nvs, CO, DA, rfl, HM, hMl, hnvl, HC, gB, HN⟩
      have h0 : 0 < M.length := (by have := msgB_pos fl qs ots 0 ops; rw [HM.out]; omega)
      obtain ⟨mg, cap, rfl, hmc, hcm, hmgl, hby⟩ := row_bytes (gB.rowAt 5 rfl) h0
      obtain ⟨na, nc, hfn⟩ := (gB.rowAt 4 rfl).form
      obtain ⟨ta, tc, hft⟩ := (gB.rowAt 3 rfl).form
      obtain ⟨ca, cc, hfc⟩ := (gB.rowAt 2 rfl).form
      rw [hnvl] at hfn
      rw [List.length_map] at hft hfc
      obtain ⟨rfl, rfl, rfl, rfl⟩ := HC.out.1 rfl
      subst hfn
      subst hft
      subst hfc
      go_wp2_with fail
      obtain ⟨w3, hw3⟩ : ∃ W, W = w2.alloc (Obj.cells #[Value.slice na qs.length nc, Value.slice ta qs.length tc, Value.slice ca qs.length cc, Value.slice none 0 0, Value.slice none 0 0] 42) := ⟨_, rfl⟩
      have hw3s : w3.heap.size = w2.heap.size + 1 := by rw [hw3]; simp
      have g3 : w2.grownBy w3 none := by rw [hw3]; exact World.grownBy_alloc _ _ none
      obtain ⟨xb, hxb⟩ : ∃ x, x = w2.heap.size := ⟨_, rfl⟩
      have x0 : w3.cell? ⟨xb, 0, none⟩ = some (.slice na qs.length nc) := by rw [hw3, hxb]; simp
      have x1 : w3.cell? ⟨xb, 1, none⟩ = some (.slice ta qs.length tc) := by rw [hw3, hxb]; simp
      have x2 : w3.cell? ⟨xb, 2, none⟩ = some (.slice ca qs.length cc) := by rw [hw3, hxb]; simp
      have x3 : w3.cell? ⟨xb, 3, none⟩ = some (.slice none 0 0) := by rw [hw3, hxb]; simp
      have x4 : w3.cell? ⟨xb, 4, none⟩ = some (.slice none 0 0) := by rw [hw3, hxb]; simp
      rw [← hw3, ← hw3s, ← hxb]
      have h23 : w2.heap.size ≤ w3.heap.size := by omega
      have hmg3 : mg < w3.heap.size := by omega
      clear hxb
      clear hw3s
      have g4 := World.grownBy_alloc w3 (.cells #[.bool false, .slice none 0 0, .slice none 0 0, .slice none 0 0] 48) none
      have b4 : Below w.heap.size w (w3.alloc (.cells #[.bool false, .slice none 0 0, .slice none 0 0, .slice none 0 0] 48)) :=
        (((hb1.trans (gB.below.mono hb1.size)).grown g3 (Nat.le_trans hb1.size gB.below.size) (fun _ h => by cases h)).grown g4 (Nat.le_trans hb1.size (Nat.le_trans gB.below.size g3.size)) (fun _ h => by cases h))
      have c4 : Below w3.heap.size w3 (w3.alloc (.cells #[.bool false, .slice none 0 0, .slice none 0 0, .slice none 0 0] 48)) := (Below.refl _ _).alloc (Nat.le_refl _) _
      have b23 : Below w2.heap.size w2 w3 := by rw [hw3]; exact (Below.refl _ _).alloc (Nat.le_refl _) _
      have b12 : Below w1.heap.size w1 w2 := gB.below
      have hMB := MB_msgB fl qs ots 0 ops
      rw [← HM.out] at hMB
      have hbM : BytesAt w3 mg 0 (MB fl (qs.map mqV) (rsB ots 0 ops) ots.length 0) := by rw [hMB]; exact hby.kept g3 (by simp)
      have HBM : Hid (BytesAt w3 mg 0 (MB fl (qs.map mqV) (rsB ots 0 ops) ots.length 0)) := hbM
      have hlen : (MB fl (qs.map mqV) (rsB ots 0 ops) ots.length 0).length = M.length := by rw [hMB]
      have B4 : Hid (Below w.heap.size w (w3.alloc (.cells #[.bool false, .slice none 0 0, .slice none 0 0, .slice none 0 0] 48))) := b4
      have C4 : Hid (Below w3.heap.size w3 (w3.alloc (.cells #[.bool false, .slice none 0 0, .slice none 0 0, .slice none 0 0] 48))) := c4
      clear hw3 hbM hMB b4 c4
      refine (unpack_any F w3.heap.size w3.heap.size mg M.length cap fl (qs.map mqV) (rsB ots 0 ops) ots.length 0 (ops.map oP) false (.slice none 0 0) (.slice none 0 0) (.slice none 0 0) 0 [] 0 [] [] _ (by rw [B4.out.tape]; exact hF) (own_new w3) (by simp) hmg3 HW (HBM.out.below C4.out hmg3) hMl (by omega) (by omega) hmc hcm).mono ?_
      rintro e w5 ⟨hb5, hs5, h⟩
      rcases h with ⟨t, v, rfl, h⟩ | ⟨rfl, _, _, qv5, oV5, lv5, qxs5, oxs5, lxs5, o5, hOwn5, hQN5, hby5, hoc5⟩
      · exfalso
        omega
      have B5 : Hid (Below w3.heap.size w3 w5) := C4.out.trans hb5
      rw [if_pos (show (0 : Nat) = 0 from rfl)] at hOwn5 hQN5 hby5 hoc5
      simp only [List.length_map] at hOwn5 hQN5
      have rq5 : RowM w5 w3.heap.size 73 3 qv5 qs.length qxs5 := hOwn5.get 1 rfl
      obtain ⟨qa5, qc5, hqf5⟩ := rq5.form
      have ro5 : RowM w5 w3.heap.size 78 2 oV5 0 oxs5 := hOwn5.get 2 rfl
      obtain ⟨oa5, oc5', hof5⟩ := ro5.form
      subst hqf5
      subst hof5
      have b25 : Below w2.heap.size w2 w5 := b23.trans (B5.out.mono h23)
      have b15 : Below w1.heap.size w1 w5 := b12.trans (b25.mono b12.size)
      have m05 := hOwn5.box_cell 0 rfl 0 rfl
      have m15 := hOwn5.box_cell 0 rfl 1 rfl
      have m25 := hOwn5.box_cell 0 rfl 2 rfl
      have QA5 : Hid (∀ j, j < qs.length → QAgree w5 qa5 na ta ca j) := q_agree hOwn5 hQN5 gB.own hnvl HN.out b25 hbd.out
      have OA5 : Hid (∀ j, j < 0 → OAgree w5 oa5 none none j) := fun j hj => absurd hj (Nat.not_lt_zero _)
      have e05 := Below.cellK B5.out x0
      have e15 := Below.cellK B5.out x1
      have e25 := Below.cellK B5.out x2
      have e35 := Below.cellK B5.out x3
      have e45 := Below.cellK B5.out x4
      go_wp2_with fail
      go_at_call 13
      refine (check_any w3.heap.size fl qa5 oa5 na ta ca none none qs.length 0 qc5 oc5' nc tc cc 0 0 w5 m05 m15 m25 hql2 (by omega) QA5 OA5).mono ?_
      rintro e w6 ⟨rfl, hb6⟩
      have B6 : Hid (Below w3.heap.size w3 w6) := B5.out.trans (hb6.mono B5.out.size)
      have own6 := hOwn5.belowAll hb6
      go_wp2_with fail
      go_at_call 12
      refine (unpack_any F w3.heap.size w3.heap.size mg M.length cap fl (qs.map mqV) (rsB ots 0 ops) ots.length 0 (ops.map oP) (qrBit fl) (.slice qa5 qs.length qc5) (.slice oa5 0 oc5') lv5 qs.length qxs5 0 oxs5 lxs5 w6 (by rw [B6.out.tape, ← C4.out.tape, B4.out.tape]; exact hF) own6 B6.out.size hmg3 HW (HBM.out.below B6.out hmg3) hMl (by omega) (by omega) hmc hcm).mono ?_
      rintro e w7 ⟨hb7, hs7, h⟩
      rcases h with ⟨t, v, rfl, h⟩ | ⟨rfl, _, _, qv7, oV7, lv7, qxs7, oxs7, lxs7, o7, hOwn7, hQN7, hby7, hoc7⟩
      · exfalso
        omega
      have B7 : Hid (Below w3.heap.size w3 w7) := B6.out.trans hb7
      rw [if_pos (show (0 : Nat) = 0 from rfl)] at hOwn7 hQN7 hby7 hoc7
      simp only [List.length_map] at hOwn7 hQN7
      have rq7 : RowM w7 w3.heap.size 73 3 qv7 qs.length qxs7 := hOwn7.get 1 rfl
      obtain ⟨qa7, qc7, hqf7⟩ := rq7.form
      have ro7 : RowM w7 w3.heap.size 78 2 oV7 0 oxs7 := hOwn7.get 2 rfl
      obtain ⟨oa7, oc7', hof7⟩ := ro7.form
      subst hqf7
      subst hof7
      have b27 : Below w2.heap.size w2 w7 := b23.trans (B7.out.mono h23)
      have b17 : Below w1.heap.size w1 w7 := b12.trans (b27.mono b12.size)
      have m07 := hOwn7.box_cell 0 rfl 0 rfl
      have m17 := hOwn7.box_cell 0 rfl 1 rfl
      have m27 := hOwn7.box_cell 0 rfl 2 rfl
      have QA7 : Hid (∀ j, j < qs.length → QAgree w7 qa7 na ta ca j) := q_agree hOwn7 hQN7 gB.own hnvl HN.out b27 hbd.out
      have OA7 : Hid (∀ j, j < 0 → OAgree w7 oa7 none none j) := fun j hj => absurd hj (Nat.not_lt_zero _)
      have e07 := Below.cellK B7.out x0
      have e17 := Below.cellK B7.out x1
      have e27 := Below.cellK B7.out x2
      have e37 := Below.cellK B7.out x3
      have e47 := Below.cellK B7.out x4
      go_wp2_with fail
      go_at_call 13
      refine (check_any w3.heap.size fl qa7 oa7 na ta ca none none qs.length 0 qc7 oc7' nc tc cc 0 0 w7 m07 m17 m27 hql2 (by omega) QA7 OA7).mono ?_
      rintro e w8 ⟨rfl, hb8⟩
      go_wp2
      go_ret
      have hsz3 : w.heap.size ≤ w3.heap.size := Nat.le_trans hb1.size (Nat.le_trans gB.below.size g3.size)
      have bw3 : Below w.heap.size w w3 := (hb1.trans (gB.below.mono hb1.size)).grown g3 (Nat.le_trans hb1.size gB.below.size) (fun _ h => by cases h)
      exact ⟨rfl, (bw3.trans (B7.out.mono hsz3)).trans (hb8.mono (Nat.le_trans hsz3 B7.out.size))⟩
    · have hW := wf_built (hq.out.later hb1) hoz.out (hp.out.later hb1) hS (nopt := 1) (by omega)
      have HW : Hid (WF (qs.map mqV) (rsB ots 1 ops) ots.length 1 (ops.map oP)) := hW
      have HP1 : Hid (OsAt w1 pao ops) := hp.out.later hb1
      have hbd : Hid (∀ j (hj : j < qs.length), 0 ≤ qs[j].ty ∧ qs[j].ty ≤ 65535 ∧ 0 ≤ qs[j].cl ∧ qs[j].cl ≤ 65535) := fun j hj => by
        obtain ⟨b, off, _, _, _, _, _, _, _, h1, h2, h3, h4⟩ := hq.out j hj
        exact ⟨h1, h2, h3, h4⟩
      have hql2 : qs.length ≤ 1000 := by have := hS.1; omega
      have hpl2 : ops.length ≤ 1000 := by have := hS.2.2.1; omega
      clear hW
      go_wp2_with fail
      go_at_call 11
      refine (build_any fl qao qs qcap oao ots ocap 1 pao ops pcap w1 (hq.out.later hb1) (ho.out.later hb1) hoz (hp.out.later hb1) hS (by omega)).mono ?_
      rintro e w2 ⟨mv, nv, tv, cv, ov, dv, M, nvs, CO, DA, rfl, HM, hMl, hnvl, HC, gB, HN⟩
      have h0 : 0 < M.length := (by have := msgB_pos fl qs ots 1 ops; rw [HM.out]; omega)
      obtain ⟨mg, cap, rfl, hmc, hcm, hmgl, hby⟩ := row_bytes (gB.rowAt 5 rfl) h0
      obtain ⟨na, nc, hfn⟩ := (gB.rowAt 4 rfl).form
      obtain ⟨ta, tc, hft⟩ := (gB.rowAt 3 rfl).form
      obtain ⟨ca, cc, hfc⟩ := (gB.rowAt 2 rfl).form
      rw [hnvl] at hfn
      rw [List.length_map] at hft hfc
      obtain ⟨rfl, rfl⟩ := HC.out.2 (by omega)
      obtain ⟨ka, kc, hfk⟩ := (gB.rowAt 1 rfl).form
      obtain ⟨da, dc, hfd⟩ := (gB.rowAt 0 rfl).form
      rw [List.length_map] at hfk hfd
      subst hfk
      subst hfd
      subst hfn
      subst hft
      subst hfc
      go_wp2_with fail
      obtain ⟨w3, hw3⟩ : ∃ W, W = w2.alloc (Obj.cells #[Value.slice na qs.length nc, Value.slice ta qs.length tc, Value.slice ca qs.length cc, Value.slice ka ops.length kc, Value.slice da ops.length dc] 42) := ⟨_, rfl⟩
      have hw3s : w3.heap.size = w2.heap.size + 1 := by rw [hw3]; simp
      have g3 : w2.grownBy w3 none := by rw [hw3]; exact World.grownBy_alloc _ _ none
      obtain ⟨xb, hxb⟩ : ∃ x, x = w2.heap.size := ⟨_, rfl⟩
      have x0 : w3.cell? ⟨xb, 0, none⟩ = some (.slice na qs.length nc) := by rw [hw3, hxb]; simp
      have x1 : w3.cell? ⟨xb, 1, none⟩ = some (.slice ta qs.length tc) := by rw [hw3, hxb]; simp
      have x2 : w3.cell? ⟨xb, 2, none⟩ = some (.slice ca qs.length cc) := by rw [hw3, hxb]; simp
      have x3 : w3.cell? ⟨xb, 3, none⟩ = some (.slice ka ops.length kc) := by rw [hw3, hxb]; simp
      have x4 : w3.cell? ⟨xb, 4, none⟩ = some (.slice da ops.length dc) := by rw [hw3, hxb]; simp
      rw [← hw3, ← hw3s, ← hxb]
      have h23 : w2.heap.size ≤ w3.heap.size := by omega
      have hmg3 : mg < w3.heap.size := by omega
      clear hxb
      clear hw3s
      have g4 := World.grownBy_alloc w3 (.cells #[.bool false, .slice none 0 0, .slice none 0 0, .slice none 0 0] 48) none
      have b4 : Below w.heap.size w (w3.alloc (.cells #[.bool false, .slice none 0 0, .slice none 0 0, .slice none 0 0] 48)) :=
        (((hb1.trans (gB.below.mono hb1.size)).grown g3 (Nat.le_trans hb1.size gB.below.size) (fun _ h => by cases h)).grown g4 (Nat.le_trans hb1.size (Nat.le_trans gB.below.size g3.size)) (fun _ h => by cases h))
      have c4 : Below w3.heap.size w3 (w3.alloc (.cells #[.bool false, .slice none 0 0, .slice none 0 0, .slice none 0 0] 48)) := (Below.refl _ _).alloc (Nat.le_refl _) _
      have b23 : Below w2.heap.size w2 w3 := by rw [hw3]; exact (Below.refl _ _).alloc (Nat.le_refl _) _
      have b12 : Below w1.heap.size w1 w2 := gB.below
      have hMB := MB_msgB fl qs ots 1 ops
      rw [← HM.out] at hMB
      have hbM : BytesAt w3 mg 0 (MB fl (qs.map mqV) (rsB ots 1 ops) ots.length 1) := by rw [hMB]; exact hby.kept g3 (by simp)
      have HBM : Hid (BytesAt w3 mg 0 (MB fl (qs.map mqV) (rsB ots 1 ops) ots.length 1)) := hbM
      have hlen : (MB fl (qs.map mqV) (rsB ots 1 ops) ots.length 1).length = M.length := by rw [hMB]
      have B4 : Hid (Below w.heap.size w (w3.alloc (.cells #[.bool false, .slice none 0 0, .slice none 0 0, .slice none 0 0] 48))) := b4
      have C4 : Hid (Below w3.heap.size w3 (w3.alloc (.cells #[.bool false, .slice none 0 0, .slice none 0 0, .slice none 0 0] 48))) := c4
      clear hw3 hbM hMB b4 c4
      refine (unpack_any F w3.heap.size w3.heap.size mg M.length cap fl (qs.map mqV) (rsB ots 1 ops) ots.length 1 (ops.map oP) false (.slice none 0 0) (.slice none 0 0) (.slice none 0 0) 0 [] 0 [] [] _ (by rw [B4.out.tape]; exact hF) (own_new w3) (by simp) hmg3 HW (HBM.out.below C4.out hmg3) hMl (by omega) (by omega) hmc hcm).mono ?_
      rintro e w5 ⟨hb5, hs5, h⟩
      rcases h with ⟨t, v, rfl, h⟩ | ⟨rfl, _, _, qv5, oV5, lv5, qxs5, oxs5, lxs5, o5, hOwn5, hQN5, hby5, hoc5⟩
      · exfalso
        omega
      have B5 : Hid (Below w3.heap.size w3 w5) := C4.out.trans hb5
      rw [if_neg (show ¬ (1 : Nat) = 0 by decide)] at hOwn5 hQN5 hby5 hoc5
      simp only [List.length_map] at hOwn5 hQN5
      have rq5 : RowM w5 w3.heap.size 73 3 qv5 qs.length qxs5 := hOwn5.get 1 rfl
      obtain ⟨qa5, qc5, hqf5⟩ := rq5.form
      have ro5 : RowM w5 w3.heap.size 78 2 oV5 ops.length oxs5 := hOwn5.get 2 rfl
      obtain ⟨oa5, oc5', hof5⟩ := ro5.form
      subst hqf5
      subst hof5
      have b25 : Below w2.heap.size w2 w5 := b23.trans (B5.out.mono h23)
      have b15 : Below w1.heap.size w1 w5 := b12.trans (b25.mono b12.size)
      have m05 := hOwn5.box_cell 0 rfl 0 rfl
      have m15 := hOwn5.box_cell 0 rfl 1 rfl
      have m25 := hOwn5.box_cell 0 rfl 2 rfl
      have QA5 : Hid (∀ j, j < qs.length → QAgree w5 qa5 na ta ca j) := q_agree hOwn5 hQN5 gB.own hnvl HN.out b25 hbd.out
      have OA5 : Hid (∀ j, j < ops.length → OAgree w5 oa5 ka da j) := o_agree hOwn5 hby5 hoc5 gB.own HP1.out b15 b25
      have e05 := Below.cellK B5.out x0
      have e15 := Below.cellK B5.out x1
      have e25 := Below.cellK B5.out x2
      have e35 := Below.cellK B5.out x3
      have e45 := Below.cellK B5.out x4
      go_wp2_with fail
      go_at_call 13
      refine (check_any w3.heap.size fl qa5 oa5 na ta ca ka da qs.length ops.length qc5 oc5' nc tc cc kc dc w5 m05 m15 m25 hql2 (by omega) QA5 OA5).mono ?_
      rintro e w6 ⟨rfl, hb6⟩
      have B6 : Hid (Below w3.heap.size w3 w6) := B5.out.trans (hb6.mono B5.out.size)
      have own6 := hOwn5.belowAll hb6
      go_wp2_with fail
      go_at_call 12
      refine (unpack_any F w3.heap.size w3.heap.size mg M.length cap fl (qs.map mqV) (rsB ots 1 ops) ots.length 1 (ops.map oP) (qrBit fl) (.slice qa5 qs.length qc5) (.slice oa5 ops.length oc5') lv5 qs.length qxs5 ops.length oxs5 lxs5 w6 (by rw [B6.out.tape, ← C4.out.tape, B4.out.tape]; exact hF) own6 B6.out.size hmg3 HW (HBM.out.below B6.out hmg3) hMl (by omega) (by omega) hmc hcm).mono ?_
      rintro e w7 ⟨hb7, hs7, h⟩
      rcases h with ⟨t, v, rfl, h⟩ | ⟨rfl, _, _, qv7, oV7, lv7, qxs7, oxs7, lxs7, o7, hOwn7, hQN7, hby7, hoc7⟩
      · exfalso
        omega
      have B7 : Hid (Below w3.heap.size w3 w7) := B6.out.trans hb7
      rw [if_neg (show ¬ (1 : Nat) = 0 by decide)] at hOwn7 hQN7 hby7 hoc7
      simp only [List.length_map] at hOwn7 hQN7
      have rq7 : RowM w7 w3.heap.size 73 3 qv7 qs.length qxs7 := hOwn7.get 1 rfl
      obtain ⟨qa7, qc7, hqf7⟩ := rq7.form
      have ro7 : RowM w7 w3.heap.size 78 2 oV7 ops.length oxs7 := hOwn7.get 2 rfl
      obtain ⟨oa7, oc7', hof7⟩ := ro7.form
      subst hqf7
      subst hof7
      have b27 : Below w2.heap.size w2 w7 := b23.trans (B7.out.mono h23)
      have b17 : Below w1.heap.size w1 w7 := b12.trans (b27.mono b12.size)
      have m07 := hOwn7.box_cell 0 rfl 0 rfl
      have m17 := hOwn7.box_cell 0 rfl 1 rfl
      have m27 := hOwn7.box_cell 0 rfl 2 rfl
      have QA7 : Hid (∀ j, j < qs.length → QAgree w7 qa7 na ta ca j) := q_agree hOwn7 hQN7 gB.own hnvl HN.out b27 hbd.out
      have OA7 : Hid (∀ j, j < ops.length → OAgree w7 oa7 ka da j) := o_agree hOwn7 hby7 hoc7 gB.own HP1.out b17 b27
      have e07 := Below.cellK B7.out x0
      have e17 := Below.cellK B7.out x1
      have e27 := Below.cellK B7.out x2
      have e37 := Below.cellK B7.out x3
      have e47 := Below.cellK B7.out x4
      go_wp2_with fail
      go_at_call 13
      refine (check_any w3.heap.size fl qa7 oa7 na ta ca ka da qs.length ops.length qc7 oc7' nc tc cc kc dc w7 m07 m17 m27 hql2 (by omega) QA7 OA7).mono ?_
      rintro e w8 ⟨rfl, hb8⟩
      go_wp2
      go_ret
      have hsz3 : w.heap.size ≤ w3.heap.size := Nat.le_trans hb1.size (Nat.le_trans gB.below.size g3.size)
      have bw3 : Below w.heap.size w w3 := (hb1.trans (gB.below.mono hb1.size)).grown g3 (Nat.le_trans hb1.size gB.below.size) (fun _ h => by cases h)
      exact ⟨rfl, (bw3.trans (B7.out.mono hsz3)).trans (hb8.mono (Nat.le_trans hsz3 B7.out.size))⟩

end Go.Proofs.YbulkaxhmFmt
