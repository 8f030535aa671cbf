/-
  The walk of LawS2430BWellFormed.
-/
import Derived.Test.YbulkaxhmFmtParse
set_option linter.unusedVariables false
set_option linter.unusedSimpArgs false
namespace Go.Proofs
open Go.RowKit Go.Extern.Stop Go.Stop Go.Extern
namespace YbulkaxhmFmt

/-- The strings of a row that is there, cell by cell, whatever its address. -/
def StrsAt (w : World) (ao : Option Addr) (l : List (List UInt8)) : Prop :=
  ∀ j (hj : j < l.length), ∃ g, ao = some ⟨g, 0, none⟩ ∧ g < w.heap.size ∧ w.cell? ⟨g, j, none⟩ = some (sv l[j])

theorem add_zero_off (g j : Nat) : (⟨g, 0, none⟩ : Addr).add j = ⟨g, j, none⟩ := by unfold Addr.add; split <;> simp_all

theorem strs_at {w : World} {b : Nat} {ao : Option Addr} {cap : Nat} {l : List (List UInt8)} (h : Strs w b (.slice ao l.length cap) l) : StrsAt w ao l := by
  intro j hj
  obtain ⟨g, cap', he, hb, hlt⟩ := h.form (by omega)
  injection he with h1 h2 h3
  subst h1
  refine ⟨g, rfl, hlt, ?_⟩
  rw [← add_zero_off]
  exact World.ownsRow.cells h (g := g) rfl j (sv l[j]) (by simp [svs, List.getElem?_eq_getElem hj])

theorem strsAt_later {w w' : World} {ao : Option Addr} {l : List (List UInt8)} (h : StrsAt w ao l) (hb : Below w.heap.size w w') : StrsAt w' ao l := by
  intro j hj
  obtain ⟨g, h1, h2, h3⟩ := h j hj
  exact ⟨g, h1, Nat.lt_of_lt_of_le h2 hb.size, (hb.cell (p := ⟨g, j, none⟩) h2).trans h3⟩

def WRel (w1 : World) (ns : List (List UInt8)) (wl tv i : Value) (wr : World) : Prop :=
  ∃ k, k ≤ ns.length ∧ i = .int .i64 k ∧ wl = .int .i64 (1 + wireOf (ns.take k) : Nat) ∧ Bytes wr w1.heap.size tv (textOf (twos (ns.take k))) ∧ Below w1.heap.size w1 wr

def WIn (w1 : World) (T : List UInt8) (S : ByteArray) (tv jv : Value) (wr : World) : Prop :=
  ∃ j, j ≤ S.size ∧ jv = .int .i64 j ∧ Bytes wr w1.heap.size tv (T ++ spell (fun _ => 2) 0 (S.data.toList.take j)) ∧ Below w1.heap.size w1 wr

theorem lastDot {s : ByteArray} (h : s.data.toList.getLast? = some 46) : ∃ h0 : 0 < s.size, ((s[s.size - 1]'(by omega)).toNat : Int) = 46 := by
  have h0 : 0 < s.size := by
    rcases Nat.eq_zero_or_pos s.size with h' | h'
    · have : s.data.toList = [] := List.eq_nil_of_length_eq_zero (by simpa using h')
      rw [this] at h; simp at h
    · exact h'
  refine ⟨h0, ?_⟩
  rw [List.getLast?_eq_getElem?] at h
  obtain ⟨h1, h2⟩ := List.getElem?_eq_some_iff.1 h
  have : s[s.size - 1]'(by omega) = 46 := by
    rw [← h2]; simp; rfl
  rw [this]; rfl

theorem text_step (T : List UInt8) (S : ByteArray) (j : Nat) (h : j < S.size) :
    T ++ spell (fun _ => 2) 0 (S.data.toList.take (j + 1)) = (T ++ spell (fun _ => 2) 0 (S.data.toList.take j)) ++ put S[j] 2 := by
  rw [take_succ_get _ _ (by simpa using h), spell_append]
  simp [spell]
  rfl
theorem take_all (S : ByteArray) : S.data.toList.take S.size = S.data.toList := List.take_of_length_le (by simp)

theorem text_all (ns : List (List UInt8)) (k : Nat) (hlt : k < ns.length) {S : ByteArray} {T : List UInt8} (hS : S.data.toList = ns[k]) (hT : textOf (twos (ns.take k)) = T) :
    textOf (twos (ns.take (k + 1))) = (T ++ spell (fun _ => 2) 0 S.data.toList) ++ [46] := by
  rw [take_succ_get ns k hlt, twos_append, textOf_append, hT, hS]
  simp [twos, textOf]
/-- A dot goes onto the text. -/
theorem step_dot {w wr w1 : World} {o : Obj} {tv : Value} {L : List UInt8} {g cap : Nat}
    (hl : Bytes wr w.heap.size tv L) (hb : Below w.heap.size w wr)
    (ho : w1.ownsRow w.heap.size 5 1 (.slice (some ⟨g, 0, none⟩) (L.length + 1) cap) (L.length + 1) (bvs L ++ [.int .u8 46])) (hg : (wr.alloc o).grownBy w1 tv.ownBlock) :
    Bytes w1 w.heap.size (.slice (some ⟨g, 0, none⟩) (L.length + 1) cap) (L ++ [46]) ∧ Below w.heap.size w w1 := by
  have hg' := grown_alloc hg
  refine ⟨?_, hb.grown hg' hb.size (fun k hk => (hl.lt k hk).1)⟩
  unfold Bytes
  rw [bvs_append, List.length_append]
  exact ho

set_option maxHeartbeats 2000000 in
set_option maxRecDepth 100000 in
theorem well_ok (F : Interp) (s : ByteArray) (w : World) (hF : F.answers w.tape) (hs : s.size ≤ 4096) :
    Calls Ybaf.prog 4 #[.string s] w fun e w' => e = .returned (.bool true) ∧ Below w.heap.size w w' := by
  obtain ⟨i5, hi5, hz50, hz51, hz52⟩ := info_parts Ybaf.info5
  have hsd : decide ((4096 : Int) < (s.size : Int)) = false := by simp; omega
  go_enter Ybaf.func4, Ybaf.ntmps4
  go_wp2_with fail
  refine (parse_any F s _ hF (by omega)).mono ?_
  rintro e w1 ⟨v, er, rfl, hb1, hcase⟩
  rcases hcase with ⟨ns, hp, rfl, hstr⟩ | ⟨_, ⟨a, x, rfl, _, _⟩⟩
  · obtain ⟨ao, cap, rfl⟩ := row_form hstr
    have hat := strs_at hstr
    obtain ⟨hgood, hwire, hlast⟩ := parse_some hp
    obtain ⟨h0, h46⟩ := lastDot hlast
    have Hp : Hid (parse s.data.toList = some ns) := hp
    have Hg : Hid (∀ r ∈ ns, good r) := hgood
    have Hat : Hid (StrsAt w1 ao ns) := hat
    have t0 : ((s.size : Int) == 0) = false := beq_eq_false_iff_ne.2 (by omega)
    have hlen := length_le_wireOf ns
    clear hp hgood hlast hat hstr
    go_wp2_with fail
    go_loopw [5, 6, 36] (fun wl tv i wr => WRel w1 ns wl tv i wr) (fun _ _ i _ => ns.length - (intOf i).toNat)
    case atStart => exact ⟨0, by omega, rfl, rfl, Bytes.nil _ _, Below.refl _ _⟩
    case round =>
      obtain ⟨k, hk, rfl, rfl, htx, hbel⟩ := hrel
      have hwt := wireOf_take_le ns k
      have htl := textOf_le (twos (ns.take k))
      rw [twos_fst] at htl
      by_cases hlt : k < ns.length
      · obtain ⟨tao, tcap, rfl⟩ := row_form htx
        obtain ⟨g, hao, hg, hc⟩ := strsAt_later Hat.out hbel k hlt
        subst hao
        obtain ⟨S, hS⟩ : ∃ S : ByteArray, S = ⟨ns[k].toArray⟩ := ⟨_, rfl⟩
        have hc' : wr.cell? ⟨g, k, none⟩ = some (.string S) := by rw [hS]; exact hc
        have HS : Hid (S.data.toList = ns[k]) := by rw [hS]; simp [Hid]
        have hSl : S.size = ns[k].length := by rw [hS]; rfl
        have hgk := Hg.out _ (List.getElem_mem hlt)
        obtain ⟨hg1, hg2⟩ := hgk
        have hg0 : 0 < ns[k].length := List.length_pos_iff.2 hg1
        have hS1 : 0 < S.size := by omega
        have hS2 : S.size ≤ 63 := by omega
        have t1 : ((S.size : Int) == 0) = false := beq_eq_false_iff_ne.2 (by omega)
        have hsn : wireOf (ns.take (k + 1)) = wireOf (ns.take k) + (1 + S.size) := by
          rw [take_succ_get ns k hlt, wireOf_snoc, hSl]
        have HW : Hid (wireOf (ns.take (k + 1)) = wireOf (ns.take k) + (1 + S.size)) := hsn
        have hwt1 := wireOf_take_le ns (k + 1)
        have hwt2 : wireOf (ns.take k) + (1 + S.size) ≤ 254 := by omega
        clear hsn hwt1 hc hS hSl hg1 hg2 hg0
        generalize hT : textOf (twos (ns.take k)) = T at htx htl
        have HT : Hid (textOf (twos (ns.take k)) = T) := hT
        clear hT
        go_wp2_with fail
        obtain ⟨wo, rfl⟩ : ∃ wo : World, wo = wr := ⟨_, rfl⟩
        go_loopw [6, 9] (fun tv jv wr => WIn w1 T S tv jv wr) (fun _ jv _ => S.size - (intOf jv).toNat)
        case atStart => exact ⟨0, by omega, rfl, by simpa [spell] using htx, hbel⟩
        case round =>
          obtain ⟨j, hj, rfl, htx2, hbel2⟩ := hrel
          have hsp := spell_le (fun _ => 2) (S.data.toList.take j) 0
          have hsl : (S.data.toList.take j).length ≤ j := List.length_take_le _ _
          have hLl : (T ++ spell (fun _ => 2) 0 (S.data.toList.take j)).length ≤ 2000 := by simp; omega
          by_cases hjl : j < S.size
          · have E := text_step T S j hjl
            generalize hL : T ++ spell (fun _ => 2) 0 (S.data.toList.take j) = L at htx2 hLl E
            have HE : Hid _ := E
            clear E hL hsp
            go_wp2_with fail
            refine (put_any w1.heap.size u6 L S[j] _ rfl 2 _ (by decide) (by decide) htx2 (by omega) hbel2.size).mono ?_
            rintro e w' ⟨g', cap', rfl, ho, hgr, hat', hlt'⟩
            have R := hbel2.grown hgr hbel2.size (fun k hk => (htx2.lt k hk).1)
            go_wp2
            go_roundw
            case rel =>
              (repeat apply Exists.intro)
              exact ⟨⟨j + 1, by omega, by go_num, by rw [HE.out]; exact ho, R⟩, rfl⟩
            case measure => simp [intOf]; omega
          · have hje : j = S.size := by omega
            subst hje
            rw [take_all] at htx2 hLl
            have E := text_all ns k hlt HS.out HT.out
            generalize hL : T ++ spell (fun _ => 2) 0 S.data.toList = L at htx2 hLl E
            have HE : Hid _ := E
            clear E hL hsp
            obtain ⟨tao2, tcap2, hu6⟩ := row_form htx2
            subst hu6
            have hn := news_alloc wr [.int .u8 46] 5
            have hsz2 := hbel2.size
            go_wp2_with (at_builtin; refine wpList_append_lies _ rfl (.tmp 64) (.tmp 65) 23 rfl w1.heap.size 5 i5 (.int .u8 0) 1 1 Ybaf.underlying23 hi5 hz50 hz51 hz52 rfl (by decide) _ _ _ rfl (htx2.alloc _) ⟨wr.heap.size, 0, none⟩ 1 1 [.int .u8 46] rfl rfl hn (ints_one [46]) (by decide) (by unfold maxLen; omega) (by omega) (by simp; omega) (wr.heap.size + 1) (by simp) ?_)
            intro g2 cap2 w2 ho hgr hat' hlt'
            have R := step_dot htx2 hbel2 ho hgr
            clear ho hgr htx2 hbel2 hn
            go_wp2
            go_roundw
            case rel => exact ⟨k + 1, by omega, by go_num, by rw [HW.out]; go_num, by rw [HE.out]; simpa using R.1, R.2⟩
            case measure => simp [intOf]; omega
      · have hke : k = ns.length := by omega
        subst hke
        rw [List.take_length] at htx htl hwt
        by_cases hn0 : 0 < ns.length
        · have t3 : ((ns.length : Int) == 0) = false := beq_eq_false_iff_ne.2 (by omega)
          have hag : again ns = textOf (twos ns) := by unfold again; rw [if_neg (by intro e; rw [e] at hn0; simp at hn0)]; rfl
          have hpos : 0 < (textOf (twos ns)).length := by
            rcases Nat.eq_zero_or_pos (textOf (twos ns)).length with h | h
            · have := textOf_nil (List.eq_nil_of_length_eq_zero h)
              have h2 := congrArg (List.map Prod.fst) this
              rw [twos_fst] at h2
              rw [h2] at hn0; simp at hn0
            · exact h
          have hpa := parse_again Hg.out hwire
          rw [hag] at hpa
          generalize hT : textOf (twos ns) = T at htx htl hpa hpos
          clear hag hT
          obtain ⟨tg, tcap, hte, _, _⟩ := htx.form hpos
          subst hte
          have hcv := bytes_string htx
          have Hpa : Hid (parse T = some ns) := hpa
          clear hpa
          go_wp2_with fail
          refine (parse_any F ⟨T.toArray⟩ _ (by show F.answers wr.tape; rw [hbel.tape, hb1.tape]; exact hF) (by show T.length ≤ _; omega)).mono ?_
          rintro e w2 ⟨v2, er2, rfl, hb2, hcase2⟩
          rcases hcase2 with ⟨ns2, hp2, rfl, hstr2⟩ | ⟨hp2, _⟩
          · have hns : ns2 = ns := by have := Hpa.out; simp only [] at hp2; rw [hp2] at this; exact Option.some.inj this
            subst hns
            obtain ⟨ao2, cap2, rfl⟩ := row_form hstr2
            have Hat2 : Hid (StrsAt w2 ao2 ns2) := strs_at hstr2
            have Hat1 : Hid (StrsAt w2 ao ns2) := strsAt_later (strsAt_later Hat.out hbel) hb2
            clear hp2 hstr2
            have t4 : ((ns2.length : Int) != (ns2.length : Int)) = false := by simp
            go_wp2_with fail
            go_loopw [93] (fun i wr => ∃ k : Nat, k ≤ ns2.length ∧ i = .int .i64 k ∧ Below w2.heap.size w2 wr) (fun i _ => ns2.length - (intOf i).toNat)
            case atStart => exact ⟨0, by omega, rfl, Below.refl _ _⟩
            case round =>
              obtain ⟨k, hk, rfl, hbel3⟩ := hrel
              by_cases hlt : k < ns2.length
              · obtain ⟨g1, hao1, hg1, hc1⟩ := strsAt_later Hat1.out hbel3 k hlt
                obtain ⟨g2, hao2, hg2, hc2⟩ := strsAt_later Hat2.out hbel3 k hlt
                subst hao1; subst hao2
                generalize hS : sv ns2[k] = S at hc1 hc2
                unfold sv at hS
                subst hS
                generalize (⟨ns2[k].toArray⟩ : ByteArray) = S at hc1 hc2
                go_wp2_with fail
                go_quiet (fail)
                go_wp2_with fail
                go_roundw
                case rel => exact ⟨k + 1, by omega, by go_num, below_drewN hbel3 _⟩
                case measure => simp [intOf]; omega
              · go_wp2
                go_ret
                exact ⟨rfl, hb1.trans ((hbel.trans (hb2.mono hbel.size)).mono hb1.size) |>.trans (hbel3.mono (by have := hb2.size; have := hbel.size; have := hb1.size; omega))⟩
          · have := Hpa.out
            simp only [] at hp2
            rw [hp2] at this; cases this
        · have t3 : ((ns.length : Int) == 0) = true := beq_iff_eq.2 (by omega)
          have hnil : ns = [] := List.eq_nil_of_length_eq_zero (by omega)
          have Hnil : Hid (ns = []) := hnil
          have htx0 : Bytes wr w1.heap.size u6 [] := by rw [hnil] at htx; exact htx
          clear htx hnil htl
          obtain ⟨tao, tcap, hu6⟩ := row_form htx0
          subst hu6
          have hn := news_alloc wr [.int .u8 46] 5
          have hsz2 := hbel.size
          go_wp2_with (at_builtin; refine wpList_append_lies _ rfl (.tmp 73) (.tmp 74) 23 rfl w1.heap.size 5 i5 (.int .u8 0) 1 1 Ybaf.underlying23 hi5 hz50 hz51 hz52 rfl (by decide) _ _ _ rfl (htx0.alloc _) ⟨wr.heap.size, 0, none⟩ 1 1 [.int .u8 46] rfl rfl hn (ints_one [46]) (by decide) (by decide) (by decide) (by simp; omega) (wr.heap.size + 1) (by simp) ?_)
          intro g2 cap2 w3 ho hgr hat' hlt'
          have R := step_dot htx0 hbel ho hgr
          clear ho hgr htx0 hn
          obtain ⟨hby, hbel'⟩ := R
          have hcv : (convert 23 9 (.slice (some ⟨g2, 0, none⟩) 1 cap2)).run Ybaf.prog w3 = .ok (.string ⟨#[46]⟩) w3 := bytes_string hby
          clear hby
          go_wp2_with fail
          refine (parse_any F ⟨#[46]⟩ _ (by show F.answers w3.tape; rw [hbel'.tape, hb1.tape]; exact hF) (by decide)).mono ?_
          rintro e w2 ⟨v2, er2, rfl, hb2, hcase2⟩
          rcases hcase2 with ⟨ns2, hp2, rfl, hstr2⟩ | ⟨hp2, _⟩
          · have hns : ns2 = [] := by
              have h46 : parse ([46] : List UInt8) = some [] := rfl
              simp only [] at hp2; rw [h46] at hp2; exact (Option.some.inj hp2).symm
            subst hns
            obtain ⟨ao2, cap2, rfl⟩ := row_form hstr2
            clear hp2 hstr2
            have t4 : ((0 : Int) != (ns.length : Int)) = false := by
              have := Hnil.out; rw [this]; rfl
            have t5 : ns.length ≤ 0 := by omega
            go_wp2_with fail
            refine wp_loop_rounds 1 ?_
            rw [rounds_succ]
            go_wp2
            go_ret
            exact ⟨rfl, (hb1.trans (hbel'.mono hb1.size)).trans (hb2.mono (by have := hbel'.size; have := hb1.size; omega))⟩
          · have h46 : parse ([46] : List UInt8) = some [] := rfl
            simp only [] at hp2
            rw [h46] at hp2; cases hp2
  · go_wp2
    go_ret
    exact ⟨rfl, hb1⟩

end YbulkaxhmFmt
end Go.Proofs
