/-
  The contract of ParseName.
-/
import Derived.Test.YbulkaxhmFmtPut
import Derived.Deep.QuietTactic
import Derived.BigQuiet
import Derived.Laws.IdiomStrings
set_option linter.unusedVariables false
set_option linter.unusedSimpArgs false
namespace Go.Proofs
open Go.RowKit Go.Extern.Stop Go.Stop Go.Extern

theorem Ybaf.info9 : (Ybaf.prog.info? 9).map (fun i => (i.zero, i.size, i.bytes)) = some (some (.string ⟨#[]⟩), 1, 16) := by kernel_rfl

namespace YbulkaxhmFmt

def sv (l : List UInt8) : Value := .string ⟨l.toArray⟩
def svs (l : List (List UInt8)) : List Value := l.map sv
theorem svs_append (l k : List (List UInt8)) : svs (l ++ k) = svs l ++ svs k := by simp [svs]

def Strs (w : World) (base : Nat) (v : Value) (l : List (List UInt8)) : Prop := w.ownsRow base 9 1 v l.length (svs l)

/-- How ParseName ends. -/
def ParseEnds (w : World) (s : List UInt8) (e : Ending) (w' : World) : Prop :=
  ∃ v er, e = .returned (.tuple #[v, er]) ∧ Below w.heap.size w w' ∧
    ((∃ ns, parse s = some ns ∧ er = .nilIface ∧ Strs w' w.heap.size v ns) ∨ (parse s = none ∧ isErr w' er))

theorem ends_err {w w' : World} {s : List UInt8} {er : Value} (h : parse s = none) (hb : Below w.heap.size w w') (he : isErr w' er) :
    ParseEnds w s (.returned (.tuple #[.slice none 0 0, er])) w' := ⟨_, _, rfl, hb, .inr ⟨h, he⟩⟩
theorem ends_ok {w w' : World} {s : List UInt8} {v : Value} {ns : List (List UInt8)} (h : parse s = some ns) (hb : Below w.heap.size w w') (he : Strs w' w.heap.size v ns) :
    ParseEnds w s (.returned (.tuple #[v, .nilIface])) w' := ⟨_, _, rfl, hb, .inl ⟨ns, h, rfl, he⟩⟩

/-- The loop's relation. -/
def PRel (w : World) (s : ByteArray) (nm lb wl i : Value) (wr : World) : Prop :=
  ∃ (k : Nat) (ns : List (List UInt8)) (lab : List UInt8) (wire : Nat), k ≤ s.size ∧ i = .int .i64 k ∧ wl = .int .i64 wire ∧ wire ≤ 255 ∧
    Strs wr w.heap.size nm ns ∧ Bytes wr w.heap.size lb lab ∧ lab.length ≤ k ∧ ns.length ≤ k ∧ Below w.heap.size w wr ∧
    Hid (pRun (s.data.toList.drop k) ns lab wire = parse s.data.toList)


theorem ownBlock_ne {w : World} {b1 b2 e1 e2 s1 s2 n1 n2 : Nat} {v1 v2 : Value} {x1 x2 : List Value} (h1 : w.ownsRow b1 e1 s1 v1 n1 x1) (h2 : w.ownsRow b2 e2 s2 v2 n2 x2) (hne : e1 ≠ e2) :
    v1.ownBlock = none ∨ v1.ownBlock ≠ v2.ownBlock := by
  rcases h1.2 with ⟨rfl, _⟩ | ⟨g, cap, cur, rfl, _, hg, _⟩
  · exact .inl rfl
  · right
    rcases h2.2 with ⟨rfl, _⟩ | ⟨g2, cap2, cur2, rfl, _, hg2, _⟩
    · simp [Value.ownBlock]
    · simp only [Value.ownBlock, ne_eq, Option.some.injEq]
      intro he
      subst he
      rw [hg] at hg2
      injection hg2 with hg2
      injection hg2 with _ h _
      exact hne h

theorem below_call {w wr w' : World} {o : Obj} (h : Below w.heap.size w wr) (h2 : Below (wr.alloc o).heap.size (wr.alloc o) w') : Below w.heap.size w w' :=
  h.trans (((Below.refl _ _).alloc h.size _).trans (h2.mono (by have := h.size; simp; omega)))
theorem below_callN {w wr w' : World} {o : Obj} {n : Nat} (h : Below w.heap.size w wr) (h2 : Below ((wr.drewN n).alloc o).heap.size ((wr.drewN n).alloc o) w') : Below w.heap.size w w' :=
  below_call (below_drewN h n) h2
theorem new_cell (w : World) (v : Value) (t : TypeId) : (w.alloc (.cells #[v] t)).cell? ⟨w.heap.size, 0, none⟩ = some v := by simp
theorem svs_one (l : List (List UInt8)) : ∀ u ∈ svs l, u.oneCell' = true := by
  intro u hu
  simp only [svs, List.mem_map] at hu
  obtain ⟨c, _, rfl⟩ := hu
  rfl

theorem row_form {w : World} {b e s n : Nat} {v : Value} {xs : List Value} (h : w.ownsRow b e s v n xs) : ∃ ao cap, v = .slice ao n cap := by
  rcases h.2 with ⟨rfl, rfl⟩ | ⟨g, cap, cur, rfl, _⟩
  · exact ⟨_, _, rfl⟩
  · exact ⟨_, _, rfl⟩

theorem bytes_cells {w : World} {b : Nat} {g cap n : Nat} {l : List UInt8} (h : Bytes w b (.slice (some ⟨g, 0, none⟩) n cap) l) :
    ∀ j (hj : j < l.length), w.cell? ((⟨g, 0, none⟩ : Addr).add j) = some (.int .u8 (l[j].toNat : Int)) := by
  intro j hj
  have := World.ownsRow.cells h (g := g) rfl j (bv l[j]) (by simp [bvs, List.getElem?_eq_getElem hj])
  exact this

theorem bytes_string {w : World} {b : Nat} {g cap : Nat} {l : List UInt8} (h : Bytes w b (.slice (some ⟨g, 0, none⟩) l.length cap) l) :
    (convert 23 9 (.slice (some ⟨g, 0, none⟩) l.length cap)).run Ybaf.prog w = .ok (.string ⟨l.toArray⟩) w :=
  run_convert_bytes_back w 23 9 5 ⟨g, 0, none⟩ cap l Ybaf.underlying23 Ybaf.underlying5 Ybaf.underlying9 (bytes_cells h)

theorem bytes_cut {w : World} {b : Nat} {g cap n : Nat} {l : List UInt8} (h : Bytes w b (.slice (some ⟨g, 0, none⟩) n cap) l) :
    Bytes w b (.slice (some ⟨g, 0, none⟩) 0 cap) [] := by
  obtain ⟨_, h2⟩ := h
  rcases h2 with ⟨h0, _⟩ | ⟨g', cap', cur, hv, hg, hh, hn, hcap, hsz, htake⟩
  · cases h0
  · cases hv
    exact ⟨rfl, .inr ⟨g, cap, cur, rfl, hg, hh, Nat.zero_le _, hcap, hsz, by simp [bvs]⟩⟩

/-- A byte goes onto the label. -/
theorem step_label {w wr w1 : World} {o : Obj} {nm lb : Value} {ns : List (List UInt8)} {lab : List UInt8} {c : UInt8} {x : Int} {g cap : Nat}
    (hx : x = c.toNat) (hn : Strs wr w.heap.size nm ns) (hl : Bytes wr w.heap.size lb lab) (hb : Below w.heap.size w wr)
    (ho : w1.ownsRow w.heap.size 5 1 (.slice (some ⟨g, 0, none⟩) (lab.length + 1) cap) (lab.length + 1) (bvs lab ++ [.int .u8 x])) (hg : (wr.alloc o).grownBy w1 lb.ownBlock) :
    Strs w1 w.heap.size nm ns ∧ Bytes w1 w.heap.size (.slice (some ⟨g, 0, none⟩) (lab.length + 1) cap) (lab ++ [c]) ∧ Below w.heap.size w w1 := by
  have hg' := grown_alloc hg
  refine ⟨hn.kept hg' (ownBlock_ne hn hl (by decide)), ?_, hb.grown hg' hb.size (fun k hk => (hl.lt k hk).1)⟩
  unfold Bytes
  rw [bvs_append, List.length_append]
  subst hx
  exact ho


theorem drop_get (s : ByteArray) (k : Nat) (h : k < s.size) : s.data.toList.drop k = s[k] :: s.data.toList.drop (k + 1) := by
  rw [List.drop_eq_getElem_cons (by simpa using h)]; rfl
theorem isDig_eq (c : UInt8) : isDig c = digB (c.toNat : Int) := by
  unfold isDig digB
  have h1 : (48 ≤ c.toNat) ↔ (48 ≤ (c.toNat : Int)) := by omega
  have h2 : (c.toNat ≤ 57) ↔ ((c.toNat : Int) ≤ 57) := by omega
  simp only [h1, h2]
theorem u8_eq {c d : UInt8} (h : (c.toNat : Int) = (d.toNat : Int)) : c = d := UInt8.toNat_inj.1 (by omega)
theorem u8_92 {c : UInt8} : (c.toNat : Int) = 92 ↔ c = 92 := ⟨fun h => u8_eq (d := 92) h, fun h => by rw [h]; rfl⟩
theorem u8_46 {c : UInt8} : (c.toNat : Int) = 46 ↔ c = 46 := ⟨fun h => u8_eq (d := 46) h, fun h => by rw [h]; rfl⟩

section
variable {s : ByteArray} {k : Nat} {ns : List (List UInt8)} {lab : List UInt8} {wire : Nat} {R : Option (List (List UInt8))}

theorem q_plain (h : k < s.size) (h1 : ((s[k].toNat : Int) == 92) = false) (h2 : ((s[k].toNat : Int) == 46) = false) (hr : pRun (s.data.toList.drop k) ns lab wire = R) :
    pRun (s.data.toList.drop (k + 1)) ns (lab ++ [s[k]]) wire = R := by
  rw [drop_get s k h, pRun_plain _ _ _ _ _ (fun e => by simp [e] at h1) (fun e => by simp [e] at h2)] at hr
  exact hr
theorem q_end (h : k < s.size) (h1 : (s[k].toNat : Int) = 92) (h2 : k + 1 = s.size) (hr : pRun (s.data.toList.drop k) ns lab wire = R) : R = none := by
  rw [drop_get s k h, u8_92.1 h1, List.drop_of_length_le (by simp; omega), pRun_bs_end] at hr
  exact hr.symm
theorem q_bs (h : k + 1 < s.size) (h1 : (s[k].toNat : Int) = 92) (h2 : digB (s[k + 1].toNat : Int) = false) (hr : pRun (s.data.toList.drop k) ns lab wire = R) :
    pRun (s.data.toList.drop (k + 2)) ns (lab ++ [s[k + 1]]) wire = R := by
  rw [drop_get s k (by omega), u8_92.1 h1, drop_get s (k + 1) h, pRun_bs_plain _ _ _ _ _ (by rw [isDig_eq]; exact h2)] at hr
  exact hr
theorem q_cut (h : k + 1 < s.size) (h1 : (s[k].toNat : Int) = 92) (h2 : digB (s[k + 1].toNat : Int) = true) (h3 : s.size ≤ k + 3) (hr : pRun (s.data.toList.drop k) ns lab wire = R) : R = none := by
  rw [drop_get s k (by omega), u8_92.1 h1, drop_get s (k + 1) h] at hr
  by_cases h4 : k + 2 < s.size
  · rw [drop_get s (k + 1 + 1) (by omega), List.drop_of_length_le (by simp; omega), pRun_bs_cut1 _ _ _ _ _ (by rw [isDig_eq]; exact h2)] at hr
    exact hr.symm
  · rw [List.drop_of_length_le (by simp; omega), pRun_bs_cut0 _ _ _ _ (by rw [isDig_eq]; exact h2)] at hr
    exact hr.symm
theorem q_dig (h : k + 3 < s.size) (h1 : (s[k].toNat : Int) = 92) (h2 : digB (s[k + 1].toNat : Int) = true) (hr : pRun (s.data.toList.drop k) ns lab wire = R) :
    R = if digB (s[k + 2].toNat : Int) = true ∧ digB (s[k + 3].toNat : Int) = true then (if 255 < oct s[k + 1] s[k + 2] s[k + 3] then none else pRun (s.data.toList.drop (k + 4)) ns (lab ++ [UInt8.ofNat (oct s[k + 1] s[k + 2] s[k + 3])]) wire) else none := by
  rw [drop_get s k (by omega), u8_92.1 h1, drop_get s (k + 1) (by omega), drop_get s (k + 1 + 1) (by omega), drop_get s (k + 1 + 1 + 1) (by omega), pRun_bs_digs _ _ _ _ _ _ _ (by rw [isDig_eq]; exact h2), isDig_eq, isDig_eq] at hr
  exact hr.symm
theorem q_nd2 (h : k + 3 < s.size) (h1 : (s[k].toNat : Int) = 92) (h2 : digB (s[k + 1].toNat : Int) = true) (h3 : digB (s[k + 2].toNat : Int) = false) (hr : pRun (s.data.toList.drop k) ns lab wire = R) : R = none := by
  rw [q_dig h h1 h2 hr, h3]; simp
theorem q_nd3 (h : k + 3 < s.size) (h1 : (s[k].toNat : Int) = 92) (h2 : digB (s[k + 1].toNat : Int) = true) (h3 : digB (s[k + 3].toNat : Int) = false) (hr : pRun (s.data.toList.drop k) ns lab wire = R) : R = none := by
  rw [q_dig h h1 h2 hr, h3]; simp
theorem oct_eq {d e g : UInt8} (h1 : digB (d.toNat : Int) = true) (h2 : digB (e.toNat : Int) = true) (h3 : digB (g.toNat : Int) = true) :
    ((oct d e g : Nat) : Int) = ((d.toNat : Int) - 48) * 100 + ((e.toNat : Int) - 48) * 10 + ((g.toNat : Int) - 48) := by
  rw [digB_iff] at h1 h2 h3
  unfold oct
  omega
theorem q_big (h : k + 3 < s.size) (h1 : (s[k].toNat : Int) = 92) (h2 : digB (s[k + 1].toNat : Int) = true) (h3 : digB (s[k + 2].toNat : Int) = true) (h4 : digB (s[k + 3].toNat : Int) = true)
    (h5 : 255 < ((s[k + 1].toNat : Int) - 48) * 100 + ((s[k + 2].toNat : Int) - 48) * 10 + ((s[k + 3].toNat : Int) - 48)) (hr : pRun (s.data.toList.drop k) ns lab wire = R) : R = none := by
  have := oct_eq h2 h3 h4
  rw [q_dig h h1 h2 hr, if_pos ⟨h3, h4⟩, if_pos (by omega)]
theorem q_oct (h : k + 3 < s.size) (h1 : (s[k].toNat : Int) = 92) (h2 : digB (s[k + 1].toNat : Int) = true) (h3 : digB (s[k + 2].toNat : Int) = true) (h4 : digB (s[k + 3].toNat : Int) = true)
    (h5 : ((s[k + 1].toNat : Int) - 48) * 100 + ((s[k + 2].toNat : Int) - 48) * 10 + ((s[k + 3].toNat : Int) - 48) ≤ 255) (hr : pRun (s.data.toList.drop k) ns lab wire = R) :
    pRun (s.data.toList.drop (k + 4)) ns (lab ++ [UInt8.ofNat (oct s[k + 1] s[k + 2] s[k + 3])]) wire = R ∧
      ((s[k + 1].toNat : Int) - 48) * 100 + ((s[k + 2].toNat : Int) - 48) * 10 + ((s[k + 3].toNat : Int) - 48) = ((UInt8.ofNat (oct s[k + 1] s[k + 2] s[k + 3])).toNat : Int) := by
  have := oct_eq h2 h3 h4
  refine ⟨?_, ?_⟩
  · rw [q_dig h h1 h2 hr, if_pos ⟨h3, h4⟩, if_neg (by omega)]
  · rw [← this]
    have : oct s[k + 1] s[k + 2] s[k + 3] ≤ 255 := by omega
    simp
    omega
theorem q_dot (h : k < s.size) (h1 : (s[k].toNat : Int) = 46) (hr : pRun (s.data.toList.drop k) ns lab wire = R) :
    R = if lab = [] then none else if 63 < lab.length then none else if 255 < wire + (1 + lab.length) then none else pRun (s.data.toList.drop (k + 1)) (ns ++ [lab]) [] (wire + (1 + lab.length)) := by
  rw [drop_get s k h, u8_46.1 h1, pRun_dot] at hr
  exact hr.symm
theorem q_dot0 (h : k < s.size) (h1 : (s[k].toNat : Int) = 46) (h2 : lab.length = 0) (hr : pRun (s.data.toList.drop k) ns lab wire = R) : R = none := by
  rw [q_dot h h1 hr, if_pos (List.eq_nil_of_length_eq_zero h2)]
theorem q_dot63 (h : k < s.size) (h1 : (s[k].toNat : Int) = 46) (h2 : 63 < lab.length) (hr : pRun (s.data.toList.drop k) ns lab wire = R) : R = none := by
  rw [q_dot h h1 hr, if_neg (by intro e; rw [e] at h2; simp at h2), if_pos h2]
theorem q_dot255 (h : k < s.size) (h1 : (s[k].toNat : Int) = 46) (h0 : 0 < lab.length) (h2 : lab.length ≤ 63) (h3 : 255 < wire + (1 + lab.length)) (hr : pRun (s.data.toList.drop k) ns lab wire = R) : R = none := by
  rw [q_dot h h1 hr, if_neg (by intro e; rw [e] at h0; simp at h0), if_neg (by omega), if_pos h3]
theorem q_dotok (h : k < s.size) (h1 : (s[k].toNat : Int) = 46) (h0 : 0 < lab.length) (h2 : lab.length ≤ 63) (h3 : wire + (1 + lab.length) ≤ 255) (hr : pRun (s.data.toList.drop k) ns lab wire = R) :
    pRun (s.data.toList.drop (k + 1)) (ns ++ [lab]) [] (wire + (1 + lab.length)) = R := by
  rw [q_dot h h1 hr, if_neg (by intro e; rw [e] at h0; simp at h0), if_neg (by omega), if_neg (by omega)]
theorem q_done (h : s.size ≤ k) (hr : pRun (s.data.toList.drop k) ns lab wire = R) : R = if lab = [] then (if ns = [] then none else some ns) else none := by
  rw [List.drop_of_length_le (by simp; omega), pRun_nil] at hr
  exact hr.symm
end

/-- The label goes onto the name; the label is cut to nothing. -/
theorem step_name {w wr w1 : World} {o : Obj} {nm : Value} {ns : List (List UInt8)} {lab : List UInt8} {g cap lg lcap : Nat}
    (hn : Strs wr w.heap.size nm ns) (hl : Bytes wr w.heap.size (.slice (some ⟨lg, 0, none⟩) lab.length lcap) lab) (hb : Below w.heap.size w wr)
    (ho : w1.ownsRow w.heap.size 9 1 (.slice (some ⟨g, 0, none⟩) (ns.length + 1) cap) (ns.length + 1) (svs ns ++ [sv lab])) (hg : (wr.alloc o).grownBy w1 nm.ownBlock) :
    Strs w1 w.heap.size (.slice (some ⟨g, 0, none⟩) (ns.length + 1) cap) (ns ++ [lab]) ∧ Bytes w1 w.heap.size (.slice (some ⟨lg, 0, none⟩) 0 lcap) [] ∧ Below w.heap.size w w1 := by
  have hg' := grown_alloc hg
  refine ⟨?_, bytes_cut (hl.kept hg' (ownBlock_ne hl hn (by decide))), hb.grown hg' hb.size (fun k hk => (hn.lt k hk).1)⟩
  unfold Strs
  rw [svs_append, List.length_append]
  exact ho

set_option maxHeartbeats 2000000 in
set_option maxRecDepth 100000 in
theorem parse_loop (F : Interp) (s : ByteArray) (w : World) (hF : F.answers w.tape) (hs : s.size ≤ 1000000) (hdot : (s.toList == [46]) = false) (hp : Hid (parse s.data.toList = pRun s.data.toList [] [] 1)) :
    Calls Ybaf.prog 9 #[.string s] w (ParseEnds w s.data.toList) := by
  obtain ⟨i5, hi5, hz50, hz51, hz52⟩ := info_parts Ybaf.info5
  obtain ⟨i9, hi9, hz90, hz91, hz92⟩ := info_parts Ybaf.info9
  go_enter Ybaf.func9, Ybaf.ntmps9
  go_wp2
  go_loopw [4, 5, 6, 7] (fun nm lb wl i wr => PRel w s nm lb wl i wr) (fun _ _ _ i _ => s.size - (intOf i).toNat)
  case atStart =>
    refine ⟨0, [], [], 1, by omega, rfl, rfl, by omega, ?_, Bytes.nil _ _, Nat.le_refl _, Nat.le_refl _, (Below.refl _ _).alloc (Nat.le_refl _) _, ?_⟩
    · exact World.ownsRow_lit w #[] 0 (Nat.le_refl _) (by decide) rfl
    · exact hp.out.symm
  case round =>
    obtain ⟨k, ns, lab, wire, hk, rfl, rfl, hwire, hstr, hlab, hll, hnl, hbel, hrun⟩ := hrel
    obtain ⟨lao, lcap, rfl⟩ := row_form hlab
    obtain ⟨nao, ncap, rfl⟩ := row_form hstr
    have hsz := hbel.size
    by_cases hlt : k < s.size
    · by_cases h92 : (s[k].toNat : Int) = 92
      · have H92 : Hid ((s[k].toNat : Int) = 92) := h92
        by_cases hk1 : k + 1 < s.size
        · have t0 : ((k : Int) + 1 == (s.size : Int)) = false := by simp; omega
          cases hd1 : digB (s[k + 1].toNat : Int) with
          | false =>
            have Q : Hid _ := q_bs hk1 h92 hd1 hrun.out
            have hn := news_alloc wr [.int .u8 (s[k + 1].toNat : Int)] 5
            clear hrun
            go_wp2_with (first | (go_at_call 15; refine (isDigit_any _ _).mono ?_; rintro e w' ⟨rfl, rfl⟩) | (at_builtin; refine wpList_append_lies _ rfl (.tmp 113) (.tmp 118) 23 rfl w.heap.size 5 i5 (.int .u8 0) 1 1 Ybaf.underlying23 hi5 hz50 hz51 hz52 rfl (by decide) _ lab.length (bvs lab) rfl (hlab.alloc _) ⟨wr.heap.size, 0, none⟩ 1 1 [.int .u8 (s[k + 1].toNat : Int)] rfl rfl hn (ints_one [_]) (by decide) (by unfold maxLen; omega) (by omega) (by simp; omega) (wr.heap.size + 1) (by simp) ?_))
            intro g cap w1 ho hg hat hlt'
            have R := step_label (c := s[k + 1]) rfl hstr hlab hbel ho hg
            clear ho hg hstr hlab hbel hn
            go_wp2
            go_roundw
            case rel => exact ⟨k + 2, ns, lab ++ [s[k + 1]], wire, by omega, by go_num, rfl, hwire, R.1, by simpa using R.2.1, by simp; omega, by omega, R.2.2, Q⟩
            case measure => simp [intOf]; omega
          | true =>
            by_cases hk3 : k + 3 < s.size
            · cases hd2 : digB (s[k + 2].toNat : Int) with
              | false =>
                have Q : Hid _ := q_nd2 hk3 h92 hd1 hd2 hrun.out
                clear hrun
                go_wp2_with (first | (go_at_call 15; refine (isDigit_any _ _).mono ?_; rintro e w' ⟨rfl, rfl⟩) | (go_at_call 14; refine (errorsNew_any _ _).mono ?_; rintro e w' ⟨rfl, rfl⟩))
                go_ret2
                exact ends_err Q.out (hbel.alloc hsz _) (isErr_plain _ _)
              | true =>
                cases hd3 : digB (s[k + 3].toNat : Int) with
                | false =>
                  have Q : Hid _ := q_nd3 hk3 h92 hd1 hd3 hrun.out
                  clear hrun
                  go_wp2_with (first | (go_at_call 15; refine (isDigit_any _ _).mono ?_; rintro e w' ⟨rfl, rfl⟩) | (go_at_call 14; refine (errorsNew_any _ _).mono ?_; rintro e w' ⟨rfl, rfl⟩))
                  go_ret2
                  exact ends_err Q.out (hbel.alloc hsz _) (isErr_plain _ _)
                | true =>
                  have b1 := digB_iff.1 hd1
                  have b2 := digB_iff.1 hd2
                  have b3 := digB_iff.1 hd3
                  obtain ⟨b10, b11⟩ := b1
                  obtain ⟨b20, b21⟩ := b2
                  obtain ⟨b30, b31⟩ := b3
                  by_cases hv : 255 < ((s[k + 1].toNat : Int) - 48) * 100 + ((s[k + 2].toNat : Int) - 48) * 10 + ((s[k + 3].toNat : Int) - 48)
                  · have Q : Hid _ := q_big hk3 h92 hd1 hd2 hd3 hv hrun.out
                    clear hrun
                    go_wp2_with (first | (go_at_call 15; refine (isDigit_any _ _).mono ?_; rintro e w' ⟨rfl, rfl⟩))
                    go_quiet (fail)
                    go_wp2_with fail
                    refine (errorf_esc F (s.extract (k + 1) (k + 4)) _ _ ?qf ?qc).mono ?_
                    case qf => show F.answers wr.tape; rw [hbel.tape]; exact hF
                    case qc => exact new_cell _ _ _
                    rintro e w' ⟨v, rfl, he, hb2⟩
                    go_wp2
                    go_ret2
                    exact ends_err Q.out (below_callN hbel hb2) he
                  · have Q' := q_oct hk3 h92 hd1 hd2 hd3 (by omega) hrun.out
                    have Q : Hid _ := Q'
                    clear Q' hrun
                    go_wp2_with (first | (go_at_call 15; refine (isDigit_any _ _).mono ?_; rintro e w' ⟨rfl, rfl⟩))
                    go_quiet (fail)
                    have hstrq : Strs (wr.drewN nq) w.heap.size (.slice nao ns.length ncap) ns := hstr
                    have hlabq : Bytes (wr.drewN nq) w.heap.size (.slice lao lab.length lcap) lab := hlab
                    have hbelq : Below w.heap.size w (wr.drewN nq) := below_drewN hbel nq
                    have hszq : w.heap.size ≤ (wr.drewN nq).heap.size := hsz
                    clear hstr hlab hbel hsz
                    generalize wr.drewN nq = wq at hstrq hlabq hbelq hszq ⊢
                    have hn := news_alloc wq [.int .u8 (((s[k + 1].toNat : Int) - 48) * 100 + ((s[k + 2].toNat : Int) - 48) * 10 + ((s[k + 3].toNat : Int) - 48))] 5
                    go_wp2_with (at_builtin; refine wpList_append_lies _ rfl (.tmp 103) (.tmp 106) 23 rfl w.heap.size 5 i5 (.int .u8 0) 1 1 Ybaf.underlying23 hi5 hz50 hz51 hz52 rfl (by decide) _ lab.length (bvs lab) rfl (hlabq.alloc _) ⟨wq.heap.size, 0, none⟩ 1 1 [.int .u8 (((s[k + 1].toNat : Int) - 48) * 100 + ((s[k + 2].toNat : Int) - 48) * 10 + ((s[k + 3].toNat : Int) - 48))] rfl rfl hn (ints_one [_]) (by decide) (by unfold maxLen; omega) (by omega) (by simp; omega) (wq.heap.size + 1) (by simp) ?_)
                    intro g cap w1 ho hg hat hlt'
                    have R := step_label (c := UInt8.ofNat (oct s[k + 1] s[k + 2] s[k + 3])) Q.out.2 hstrq hlabq hbelq ho hg
                    clear ho hg hstrq hlabq hbelq hn
                    go_wp2
                    go_roundw
                    case rel => exact ⟨k + 4, ns, lab ++ [UInt8.ofNat (oct s[k + 1] s[k + 2] s[k + 3])], wire, by omega, by go_num, rfl, hwire, R.1, by simpa using R.2.1, by simp; omega, by omega, R.2.2, Q.out.1⟩
                    case measure => simp [intOf]; omega
            · have Q : Hid _ := q_cut hk1 h92 hd1 (by omega) hrun.out
              clear hrun
              go_wp2_with (first | (go_at_call 15; refine (isDigit_any _ _).mono ?_; rintro e w' ⟨rfl, rfl⟩) | (go_at_call 14; refine (errorsNew_any _ _).mono ?_; rintro e w' ⟨rfl, rfl⟩))
              go_ret2
              exact ends_err Q.out (hbel.alloc hsz _) (isErr_plain _ _)
        · have t0 : ((k : Int) + 1 == (s.size : Int)) = true := by simp; omega
          have Q : Hid _ := q_end hlt h92 (by omega) hrun.out
          clear hrun
          go_wp2_with (first | (go_at_call 14; refine (errorsNew_any _ _).mono ?_; rintro e w' ⟨rfl, rfl⟩))
          go_ret2
          exact ends_err Q.out (hbel.alloc hsz _) (isErr_plain _ _)
      · by_cases h46 : (s[k].toNat : Int) = 46
        · have t1 : ((s[k].toNat : Int) == 92) = false := by simpa using h92
          clear h92
          by_cases hl0 : 0 < lab.length
          · have t2 : ((lab.length : Int) == 0) = false := beq_eq_false_iff_ne.2 (by omega)
            obtain ⟨lg, lcap', hle, _, _⟩ := hlab.form hl0
            injection hle with e1 e2 e3
            subst e1; subst e3
            by_cases hl63 : 63 < lab.length
            · have Q : Hid _ := q_dot63 hlt h46 hl63 hrun.out
              clear hrun
              go_wp2_with fail
              refine (errorf_lab F 63 _ _ ?qf1 ?qc1).mono ?_
              case qf1 => show F.answers wr.tape; rw [hbel.tape]; exact hF
              case qc1 => exact new_cell _ _ _
              rintro e w' ⟨v, rfl, he, hb2⟩
              go_wp2
              go_ret2
              exact ends_err Q.out (below_call hbel hb2) he
            · by_cases hl255 : 255 < wire + (1 + lab.length)
              · have Q : Hid _ := q_dot255 hlt h46 hl0 (by omega) hl255 hrun.out
                clear hrun
                go_wp2_with fail
                refine (errorf_lon F 255 _ _ ?qf2 ?qc2).mono ?_
                case qf2 => show F.answers wr.tape; rw [hbel.tape]; exact hF
                case qc2 => exact new_cell _ _ _
                rintro e w' ⟨v, rfl, he, hb2⟩
                go_wp2
                go_ret2
                exact ends_err Q.out (below_call hbel hb2) he
              · have Q : Hid _ := q_dotok hlt h46 hl0 (by omega) (by omega) hrun.out
                clear hrun
                have hcv := bytes_string hlab
                have hn := news_alloc wr [.string ⟨lab.toArray⟩] 9
                go_wp2_with (at_builtin; refine wpList_append_lies _ rfl (.tmp 145) (.tmp 148) 29 rfl w.heap.size 9 i9 (.string ⟨#[]⟩) 1 16 Ybaf.underlying29 hi9 hz90 hz91 hz92 rfl (by decide) _ ns.length (svs ns) rfl (hstr.alloc _) ⟨wr.heap.size, 0, none⟩ 1 1 [.string ⟨lab.toArray⟩] rfl rfl hn (svs_one [lab]) (by decide) (by unfold maxLen; omega) (by omega) (by simp; omega) (wr.heap.size + 1) (by simp) ?_)
                intro g cap w1 ho hg hat hlt'
                have R := step_name hstr hlab hbel ho hg
                clear ho hg hstr hlab hbel hn hcv
                go_wp2
                go_roundw
                case rel => exact ⟨k + 1, ns ++ [lab], [], wire + (1 + lab.length), by omega, by go_num, by go_num, by omega, by simpa using R.1, R.2.1, by simp, by simp; omega, R.2.2, Q⟩
                case measure => simp [intOf]; omega
          · have t2 : ((lab.length : Int) == 0) = true := beq_iff_eq.2 (by omega)
            have Q : Hid _ := q_dot0 hlt h46 (by omega) hrun.out
            clear hrun
            go_wp2_with (first | (go_at_call 14; refine (errorsNew_any _ _).mono ?_; rintro e w' ⟨rfl, rfl⟩))
            go_ret2
            exact ends_err Q.out (hbel.alloc hsz _) (isErr_plain _ _)
        · have t1 : ((s[k].toNat : Int) == 92) = false := by simpa using h92
          have t2 : ((s[k].toNat : Int) == 46) = false := by simpa using h46
          have Q : Hid _ := q_plain hlt t1 t2 hrun.out
          clear h92 h46 hrun
          have hn := news_alloc wr [.int .u8 (s[k].toNat : Int)] 5
          go_wp2_with (first | (go_at_call 15; refine (isDigit_any _ _).mono ?_; rintro e w' ⟨rfl, rfl⟩) | (at_builtin; refine wpList_append_lies _ rfl (.tmp 23) (.tmp 25) 23 rfl w.heap.size 5 i5 (.int .u8 0) 1 1 Ybaf.underlying23 hi5 hz50 hz51 hz52 rfl (by decide) _ lab.length (bvs lab) rfl (hlab.alloc _) ⟨wr.heap.size, 0, none⟩ 1 1 [.int .u8 (s[k].toNat : Int)] rfl rfl hn (ints_one [_]) (by decide) (by unfold maxLen; omega) (by omega) (by simp; omega) (wr.heap.size + 1) (by simp) ?_))
          intro g cap w1 ho hg hat hlt'
          have R := step_label (c := s[k]) rfl hstr hlab hbel ho hg
          clear ho hg hstr hlab hbel hn
          go_wp2
          go_roundw
          case rel => exact ⟨k + 1, ns, lab ++ [s[k]], wire, by omega, by go_num, rfl, hwire, R.1, by simpa using R.2.1, by simp; omega, by omega, R.2.2, Q⟩
          case measure => simp [intOf]; omega
    · have Q' := q_done (by omega) hrun.out
      clear hrun
      by_cases hl0 : 0 < lab.length
      · have t2 : ((lab.length : Int) == 0) = false := beq_eq_false_iff_ne.2 (by omega)
        rw [if_neg (by intro e; rw [e] at hl0; simp at hl0)] at Q'
        have Q : Hid _ := Q'
        clear Q'
        by_cases hn0 : 0 < ns.length
        · have t3 : ((ns.length : Int) == 0) = false := beq_eq_false_iff_ne.2 (by omega)
          go_wp2_with (first | (go_at_call 14; refine (errorsNew_any _ _).mono ?_; rintro e w' ⟨rfl, rfl⟩))
          go_ret2
          exact ends_err Q.out (hbel.alloc hsz _) (isErr_plain _ _)
        · have t3 : ((ns.length : Int) == 0) = true := beq_iff_eq.2 (by omega)
          go_wp2_with (first | (go_at_call 14; refine (errorsNew_any _ _).mono ?_; rintro e w' ⟨rfl, rfl⟩))
          go_ret2
          exact ends_err Q.out (hbel.alloc hsz _) (isErr_plain _ _)
      · have t2 : ((lab.length : Int) == 0) = true := beq_iff_eq.2 (by omega)
        rw [if_pos (List.eq_nil_of_length_eq_zero (by omega))] at Q'
        by_cases hn0 : 0 < ns.length
        · have t3 : ((ns.length : Int) == 0) = false := beq_eq_false_iff_ne.2 (by omega)
          rw [if_neg (by intro e; rw [e] at hn0; simp at hn0)] at Q'
          have Q : Hid _ := Q'
          clear Q'
          go_wp2
          go_ret2
          exact ends_ok Q.out hbel hstr
        · have t3 : ((ns.length : Int) == 0) = true := beq_iff_eq.2 (by omega)
          rw [if_pos (List.eq_nil_of_length_eq_zero (by omega))] at Q'
          have Q : Hid _ := Q'
          clear Q'
          go_wp2_with (first | (go_at_call 14; refine (errorsNew_any _ _).mono ?_; rintro e w' ⟨rfl, rfl⟩))
          go_ret2
          exact ends_err Q.out (hbel.alloc hsz _) (isErr_plain _ _)

set_option maxRecDepth 100000 in
theorem parse_any (F : Interp) (s : ByteArray) (w : World) (hF : F.answers w.tape) (hs : s.size ≤ 1000000) :
    Calls Ybaf.prog 9 #[.string s] w (ParseEnds w s.data.toList) := by
  cases hdot : (s.toList == [46]) with
  | false => 
    refine parse_loop F s w hF hs hdot ?_
    have : ¬ s.data.toList = [46] := by
      rw [← ByteArray.toList_eq]; simpa using hdot
    show parse s.data.toList = _
    unfold parse
    rw [if_neg this]
  | true =>
    have h2 : Hid (parse s.data.toList = some []) := by
      have : s.data.toList = [46] := by rw [← ByteArray.toList_eq]; simpa using hdot
      show parse s.data.toList = _
      unfold parse
      rw [if_pos this]
    go_enter Ybaf.func9, Ybaf.ntmps9
    go_wp2
    go_ret2
    exact ends_ok h2.out ((Below.refl _ _).alloc (Nat.le_refl _) _) (World.ownsRow_lit w #[] 0 (Nat.le_refl _) (by decide) rfl)

end YbulkaxhmFmt
end Go.Proofs
