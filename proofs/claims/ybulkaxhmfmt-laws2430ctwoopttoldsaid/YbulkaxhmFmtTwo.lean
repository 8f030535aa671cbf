/-
  The walk of LawS2430CTwoOPT.
-/
import Derived.Test.YbulkaxhmFmtLawKit
set_option linter.unusedVariables false
set_option linter.unusedSimpArgs false
namespace Go.Proofs.YbulkaxhmFmt
open Go.Extern.Stop Go.Stop Go.Extern Go.RowKit

set_option maxRecDepth 100000 in
set_option maxHeartbeats 1000000 in
theorem two_any (F : Interp) (fl : UInt8) (qao : Option Addr) (qs : List QV) (qcap : Nat) (oao : Option Addr) (ots : List Int) (ocap : Nat) (pao : Option Addr) (ops : List OV) (pcap : Nat) (w : World) (hF : F.answers w.tape)
    (hq : Hid (QsAt w qao qs)) (ho : Hid (IntsAt w .u16 oao ots)) (hoz : Hid (∀ z ∈ ots, 0 ≤ z ∧ z ≤ 65535)) (hp : Hid (OsAt w pao ops)) (hql : qs.length ≤ maxLen) (hol : ots.length ≤ maxLen) (hpl : ops.length ≤ maxLen) :
    Calls Ybaf.prog 7 #[.int .u8 (fl.toNat : Int), .slice qao qs.length qcap, .slice oao ots.length ocap, .slice pao ops.length pcap] w fun e w' => e = .returned (.bool true) ∧ Below w.heap.size w w' := by
  go_enter Ybaf.func7, Ybaf.ntmps7
  go_wp2_with fail
  go_at_call 10
  refine (small_any qao qs qcap oao ots.length ocap pao ops.length pcap w hq hql hol hpl).mono ?_
  rintro e w1 ⟨b, rfl, hb1, hsm⟩
  cases b
  · go_wp2
    go_ret
    exact ⟨rfl, hb1⟩
  · have hS := hsm rfl
    clear hsm
    have hW := wf_built (hq.out.later hb1) hoz.out (hp.out.later hb1) hS (nopt := 2) (by omega)
    have HW : Hid (WF (qs.map mqV) (rsB ots 2 ops) ots.length 2 (ops.map oP)) := hW
    clear hW
    go_wp2_with (go_at_call 11; refine (build_any fl qao qs qcap oao ots ocap 2 pao ops pcap w1 (hq.out.later hb1) (ho.out.later hb1) hoz (hp.out.later hb1) hS (by omega)).mono ?_; rintro e w2 ⟨mv, nv, tv, cv, ov, dv, M, nvs, CO, DA, rfl, HM, hMl, hnvl, HC, gB, HN⟩; have h0 : 0 < M.length := (by have := msgB_pos fl qs ots 2 ops; rw [HM.out]; omega); obtain ⟨mg, cap, rfl, hmc, hcm, hmgl, hby⟩ := row_bytes (gB.rowAt 5 rfl) h0; obtain ⟨na, nc, rfl⟩ := (gB.rowAt 4 rfl).form; obtain ⟨ta, tc, rfl⟩ := (gB.rowAt 3 rfl).form; obtain ⟨ca, cc, rfl⟩ := (gB.rowAt 2 rfl).form; obtain ⟨oa, oc, rfl⟩ := (gB.rowAt 1 rfl).form; obtain ⟨da, dc, rfl⟩ := (gB.rowAt 0 rfl).form)
    obtain ⟨w3, hw3⟩ : ∃ W, W = w2.alloc (Obj.cells #[Value.slice na qs.length nc, Value.slice ta qs.length tc, Value.slice ca qs.length cc, Value.slice oa CO.length oc, Value.slice da DA.length dc] 42) := ⟨_, rfl⟩
    have hw3s : w3.heap.size = w2.heap.size + 1 := by rw [hw3]; simp
    have g3 : w2.grownBy w3 none := by rw [hw3]; exact World.grownBy_alloc _ _ none
    rw [← hw3, ← hw3s]
    have g4 := World.grownBy_alloc w3 (.cells #[.bool false, .slice none 0 0, .slice none 0 0, .slice none 0 0] 48) none
    have b4 : Below w.heap.size w (w3.alloc (.cells #[.bool false, .slice none 0 0, .slice none 0 0, .slice none 0 0] 48)) :=
      (((hb1.trans (gB.below.mono hb1.size)).grown g3 (Nat.le_trans hb1.size gB.below.size) (fun _ h => by cases h)).grown g4 (Nat.le_trans hb1.size (Nat.le_trans gB.below.size g3.size)) (fun _ h => by cases h))
    have hMB := MB_msgB fl qs ots 2 ops
    rw [← HM.out] at hMB
    have hbM : BytesAt (w3.alloc (.cells #[.bool false, .slice none 0 0, .slice none 0 0, .slice none 0 0] 48)) mg 0 (MB fl (qs.map mqV) (rsB ots 2 ops) ots.length 2) := by rw [hMB]; exact (hby.kept g3 (by simp)).kept g4 (by simp)
    refine (unpack_any F w3.heap.size w3.heap.size mg M.length cap fl (qs.map mqV) (rsB ots 2 ops) ots.length 2 (ops.map oP) false (.slice none 0 0) (.slice none 0 0) (.slice none 0 0) 0 [] 0 [] [] _ (by rw [b4.tape]; exact hF) (own_new w3) (by simp) (by omega) HW hbM hMl (by rw [hMB]; exact Nat.le_refl _) (by rw [hMB]; exact hMl) hmc hcm).mono ?_
    rintro e w5 ⟨hb5, hs5, h⟩
    rcases h with ⟨t, v, rfl, _⟩ | ⟨_, _, h2, _⟩
    · have hne := ifaceNe t v
      go_wp2
      go_ret
      exact ⟨rfl, b4.trans (hb5.mono (by have := hb1.size; have := gB.below.size; omega))⟩
    · omega

end Go.Proofs.YbulkaxhmFmt
