/-
  What ParseName reads, as a plain function on bytes, and the two laws about it. No Go here.
-/
set_option linter.unusedVariables false
set_option linter.unusedSimpArgs false
namespace Go.Proofs.YbulkaxhmFmt

def put (c : UInt8) (m : Nat) : List UInt8 :=
  if m % 3 = 0 then (if c = 46 ∨ c = 92 then [92, c] else [c])
  else if m % 3 = 1 ∧ (c.toNat < 48 ∨ 57 < c.toNat) then [92, c]
  else [92, 48 + c / 100, 48 + (c / 10) % 10, 48 + c % 10]

def isDig (c : UInt8) : Bool := decide (48 ≤ c.toNat) && decide (c.toNat ≤ 57)

def oct (d e g : UInt8) : Nat := (d.toNat - 48) * 100 + (e.toNat - 48) * 10 + (g.toNat - 48)

/-- The rest of the text, read from the state (the labels so far, the label being read, the wire length so far). -/
def pRun : List UInt8 → List (List UInt8) → List UInt8 → Nat → Option (List (List UInt8))
  | [], name, label, _ => if label = [] then (if name = [] then none else some name) else none
  | c :: t, name, label, wire =>
    if c = 92 then
      match t with
      | [] => none
      | d :: t1 =>
        if isDig d = true then
          match t1 with
          | e :: g :: t3 => if isDig e = true ∧ isDig g = true then (if 255 < oct d e g then none else pRun t3 name (label ++ [UInt8.ofNat (oct d e g)]) wire) else none
          | _ => none
        else pRun t1 name (label ++ [d]) wire
    else if c = 46 then
      if label = [] then none
      else if 63 < label.length then none
      else if 255 < wire + (1 + label.length) then none
      else pRun t (name ++ [label]) [] (wire + (1 + label.length))
    else pRun t name (label ++ [c]) wire

def parse (s : List UInt8) : Option (List (List UInt8)) := if s = [46] then some [] else pRun s [] [] 1

theorem pRun_nil (name : List (List UInt8)) (label : List UInt8) (wire : Nat) : pRun [] name label wire = if label = [] then (if name = [] then none else some name) else none := by
  rw [pRun.eq_def]

theorem pRun_bs_end (name : List (List UInt8)) (label : List UInt8) (wire : Nat) : pRun [92] name label wire = none := by
  rw [pRun.eq_def]; simp
theorem pRun_bs_plain (d : UInt8) (t : List UInt8) (name : List (List UInt8)) (label : List UInt8) (wire : Nat) (h : isDig d = false) :
    pRun (92 :: d :: t) name label wire = pRun t name (label ++ [d]) wire := by
  rw [pRun.eq_def]; simp [h]
theorem pRun_bs_cut0 (d : UInt8) (name : List (List UInt8)) (label : List UInt8) (wire : Nat) (h : isDig d = true) :
    pRun [92, d] name label wire = none := by
  rw [pRun.eq_def]; simp [h]
theorem pRun_bs_cut1 (d e : UInt8) (name : List (List UInt8)) (label : List UInt8) (wire : Nat) (h : isDig d = true) :
    pRun [92, d, e] name label wire = none := by
  rw [pRun.eq_def]; simp [h]
theorem pRun_bs_digs (d e g : UInt8) (t : List UInt8) (name : List (List UInt8)) (label : List UInt8) (wire : Nat) (h : isDig d = true) :
    pRun (92 :: d :: e :: g :: t) name label wire = if isDig e = true ∧ isDig g = true then (if 255 < oct d e g then none else pRun t name (label ++ [UInt8.ofNat (oct d e g)]) wire) else none := by
  rw [pRun.eq_def]; simp [h]
theorem pRun_dot (t : List UInt8) (name : List (List UInt8)) (label : List UInt8) (wire : Nat) :
    pRun (46 :: t) name label wire = if label = [] then none else if 63 < label.length then none else if 255 < wire + (1 + label.length) then none else pRun t (name ++ [label]) [] (wire + (1 + label.length)) := by
  rw [pRun.eq_def]; simp
theorem pRun_plain (c : UInt8) (t : List UInt8) (name : List (List UInt8)) (label : List UInt8) (wire : Nat) (h1 : c ≠ 92) (h2 : c ≠ 46) :
    pRun (c :: t) name label wire = pRun t name (label ++ [c]) wire := by
  rw [pRun.eq_def]; simp [h1, h2]

theorem ddd_all : ∀ c : Fin 256, let u := UInt8.ofNat c.val
    isDig (48 + u / 100) = true ∧ isDig (48 + (u / 10) % 10) = true ∧ isDig (48 + u % 10) = true ∧ oct (48 + u / 100) (48 + (u / 10) % 10) (48 + u % 10) = c.val := by decide +kernel

theorem ddd (c : UInt8) : isDig (48 + c / 100) = true ∧ isDig (48 + (c / 10) % 10) = true ∧ isDig (48 + c % 10) = true ∧ oct (48 + c / 100) (48 + (c / 10) % 10) (48 + c % 10) = c.toNat := by
  have h := ddd_all ⟨c.toNat, c.toNat_lt⟩
  simpa using h

/-- One octet, however it is spelt, is read as itself. -/
theorem pRun_put (c : UInt8) (m : Nat) (t : List UInt8) (name : List (List UInt8)) (label : List UInt8) (wire : Nat) :
    pRun (put c m ++ t) name label wire = pRun t name (label ++ [c]) wire := by
  obtain ⟨d1, d2, d3, d4⟩ := ddd c
  have hd : pRun ([92, 48 + c / 100, 48 + (c / 10) % 10, 48 + c % 10] ++ t) name label wire = pRun t name (label ++ [c]) wire := by
    have := c.toNat_lt
    show pRun (92 :: (48 + c / 100) :: (48 + (c / 10) % 10) :: (48 + c % 10) :: t) name label wire = _
    rw [pRun_bs_digs _ _ _ _ _ _ _ d1, if_pos ⟨d2, d3⟩, d4, if_neg (by omega)]
    simp
  have hb : isDig c = false → pRun ([92, c] ++ t) name label wire = pRun t name (label ++ [c]) wire := fun h => pRun_bs_plain c t name label wire h
  unfold put
  split
  · split
    · rename_i h
      rcases h with h | h <;> (subst h; exact hb (by decide))
    · rename_i h
      have h' : c ≠ 46 ∧ c ≠ 92 := ⟨fun e => h (.inl e), fun e => h (.inr e)⟩
      exact pRun_plain c t name label wire h'.2 h'.1
  · split
    · rename_i h
      refine hb ?_
      unfold isDig
      rcases h.2 with h | h
      · rw [decide_eq_false (by omega : ¬ 48 ≤ c.toNat)]; rfl
      · rw [decide_eq_false (by omega : ¬ c.toNat ≤ 57)]; simp
    · exact hd

/-- A whole label's octets, spelt by the modes 'ms'. -/
def spell (ms : Nat → Nat) : Nat → List UInt8 → List UInt8
  | _, [] => []
  | j, c :: t => put c (ms j) ++ spell ms (j + 1) t

theorem pRun_spell (ms : Nat → Nat) (raw : List UInt8) : ∀ (j : Nat) (t : List UInt8) (name : List (List UInt8)) (label : List UInt8) (wire : Nat),
    pRun (spell ms j raw ++ t) name label wire = pRun t name (label ++ raw) wire := by
  induction raw with
  | nil => intro j t name label wire; simp [spell]
  | cons c r ih =>
    intro j t name label wire
    rw [spell, List.append_assoc, pRun_put, ih]
    simp

/-- The text of a list of labels, each with its modes. -/
def textOf : List (List UInt8 × (Nat → Nat)) → List UInt8
  | [] => []
  | (raw, ms) :: r => spell ms 0 raw ++ (46 :: textOf r)

def wireOf : List (List UInt8) → Nat
  | [] => 0
  | r :: t => 1 + r.length + wireOf t

theorem pRun_text (ls : List (List UInt8 × (Nat → Nat))) : ∀ (name : List (List UInt8)) (wire : Nat),
    (name ≠ [] ∨ ls ≠ []) → wire ≤ 255 →
    pRun (textOf ls) name [] wire = if (∀ r ∈ ls.map Prod.fst, r ≠ [] ∧ r.length ≤ 63) ∧ wire + wireOf (ls.map Prod.fst) ≤ 255 then some (name ++ ls.map Prod.fst) else none := by
  induction ls with
  | nil =>
    intro name wire h hw
    rw [textOf, pRun_nil]
    rcases h with h | h
    · simp [h, wireOf, hw]
    · exact absurd rfl h
  | cons x r ih =>
    obtain ⟨raw, ms⟩ := x
    intro name wire h hw
    rw [textOf, pRun_spell, pRun_dot]
    simp only [List.nil_append, List.map_cons, List.forall_mem_cons, wireOf]
    by_cases h1 : raw = []
    · simp [h1]
    · by_cases h2 : 63 < raw.length
      · rw [if_neg h1, if_pos h2, if_neg (by intro hh; omega)]
      · by_cases h3 : 255 < wire + (1 + raw.length)
        · rw [if_neg h1, if_neg h2, if_pos h3, if_neg (by intro hh; omega)]
        · rw [if_neg h1, if_neg h2, if_neg h3, ih (name ++ [raw]) (wire + (1 + raw.length)) (.inl (by simp)) (by omega)]
          have e : (wire + (1 + raw.length) + wireOf (r.map Prod.fst) ≤ 255) ↔ (wire + (1 + raw.length + wireOf (r.map Prod.fst)) ≤ 255) := by omega
          by_cases h4 : (∀ q ∈ r.map Prod.fst, q ≠ [] ∧ q.length ≤ 63) ∧ wire + (1 + raw.length) + wireOf (r.map Prod.fst) ≤ 255
          · rw [if_pos h4, if_pos ⟨⟨⟨h1, by omega⟩, h4.1⟩, e.1 h4.2⟩]
            simp
          · rw [if_neg h4, if_neg (by intro hh; exact h4 ⟨hh.1.2, e.2 hh.2⟩)]

theorem put_pos (c : UInt8) (m : Nat) : 0 < (put c m).length := by
  unfold put; repeat' split
  all_goals simp
theorem put_le (c : UInt8) (m : Nat) : (put c m).length ≤ 4 := by
  unfold put; repeat' split
  all_goals simp

theorem spell_nil {ms : Nat → Nat} {j : Nat} {raw : List UInt8} (h : spell ms j raw = []) : raw = [] := by
  cases raw with
  | nil => rfl
  | cons c t =>
    rw [spell] at h
    have := put_pos c (ms j)
    have h2 := congrArg List.length h
    simp at h2
    rw [h2.1] at this
    simp at this

theorem textOf_nil {ls : List (List UInt8 × (Nat → Nat))} (h : textOf ls = []) : ls = [] := by
  cases ls with
  | nil => rfl
  | cons x r => obtain ⟨raw, ms⟩ := x; simp [textOf] at h

theorem textOf_dot {ls : List (List UInt8 × (Nat → Nat))} (h : textOf ls = [46]) : ls.map Prod.fst = [[]] := by
  cases ls with
  | nil => simp [textOf] at h
  | cons x r =>
    obtain ⟨raw, ms⟩ := x
    rw [textOf] at h
    have h2 := congrArg List.length h
    simp only [List.length_append, List.length_cons, List.length_nil] at h2
    have h3 : spell ms 0 raw = [] := List.eq_nil_of_length_eq_zero (by omega)
    have h4 : textOf r = [] := List.eq_nil_of_length_eq_zero (by omega)
    rw [spell_nil h3, textOf_nil h4]
    rfl

theorem parse_text (ls : List (List UInt8 × (Nat → Nat))) (h1 : ls ≠ []) (h2 : ls.map Prod.fst ≠ [[]]) :
    parse (textOf ls) = if (∀ r ∈ ls.map Prod.fst, r ≠ [] ∧ r.length ≤ 63) ∧ 1 + wireOf (ls.map Prod.fst) ≤ 255 then some (ls.map Prod.fst) else none := by
  unfold parse
  rw [if_neg (fun h => h2 (textOf_dot h)), pRun_text ls [] 1 (.inr h1) (by omega)]
  simp

theorem wireOf_snoc (a : List (List UInt8)) (x : List UInt8) : wireOf (a ++ [x]) = wireOf a + (1 + x.length) := by
  induction a with
  | nil => simp [wireOf]
  | cons y t ih => simp only [List.cons_append, wireOf, ih]; omega

def good (r : List UInt8) : Prop := r ≠ [] ∧ r.length ≤ 63

theorem getLast_cons {c : UInt8} {t : List UInt8} (h : t.getLast? = some 46) : (c :: t).getLast? = some 46 := by
  cases t with
  | nil => simp at h
  | cons d r => simpa using h

theorem pRun_some : ∀ (n : Nat) (t : List UInt8), t.length ≤ n → ∀ (name : List (List UInt8)) (label : List UInt8) (wire : Nat) (got : List (List UInt8)), pRun t name label wire = some got → (∀ r ∈ name, good r) → wire = 1 + wireOf name → wire ≤ 255 →
    (∀ r ∈ got, good r) ∧ 1 + wireOf got ≤ 255 ∧ got ≠ [] ∧ ((t = [] ∧ label = []) ∨ t.getLast? = some 46) := by
  intro n
  induction n with
  | zero =>
    intro t ht name label wire got h hn hw hl
    have : t = [] := List.eq_nil_of_length_eq_zero (by omega)
    subst this
    rw [pRun_nil] at h
    by_cases h1 : label = []
    · rw [if_pos h1] at h
      by_cases h2 : name = []
      · rw [if_pos h2] at h; cases h
      · rw [if_neg h2] at h
        cases h
        exact ⟨hn, by omega, h2, .inl ⟨rfl, h1⟩⟩
    · rw [if_neg h1] at h; cases h
  | succ n ih =>
    intro t ht name label wire got h hn hw hl
    cases t with
    | nil =>
      rw [pRun_nil] at h
      by_cases h1 : label = []
      · rw [if_pos h1] at h
        by_cases h2 : name = []
        · rw [if_pos h2] at h; cases h
        · rw [if_neg h2] at h
          cases h
          exact ⟨hn, by omega, h2, .inl ⟨rfl, h1⟩⟩
      · rw [if_neg h1] at h; cases h
    | cons c t =>
      simp only [List.length_cons] at ht
      by_cases hc : c = 92
      · subst hc
        cases t with
        | nil => rw [pRun_bs_end] at h; cases h
        | cons d t1 =>
          simp only [List.length_cons] at ht
          cases hd : isDig d with
          | false =>
            rw [pRun_bs_plain d t1 name label wire hd] at h
            obtain ⟨a, b, c', d'⟩ := ih t1 (by omega) name (label ++ [d]) wire got h hn hw hl
            refine ⟨a, b, c', .inr ?_⟩
            rcases d' with d' | d'
            · exact absurd d'.2 (by simp)
            · exact getLast_cons (getLast_cons d')
          | true =>
            cases t1 with
            | nil => rw [pRun_bs_cut0 d name label wire hd] at h; cases h
            | cons e t2 =>
              cases t2 with
              | nil => rw [pRun_bs_cut1 d e name label wire hd] at h; cases h
              | cons g t3 =>
                simp only [List.length_cons] at ht
                rw [pRun_bs_digs d e g t3 name label wire hd] at h
                by_cases h1 : isDig e = true ∧ isDig g = true
                · rw [if_pos h1] at h
                  by_cases h2 : 255 < oct d e g
                  · rw [if_pos h2] at h; cases h
                  · rw [if_neg h2] at h
                    obtain ⟨a, b, c', d'⟩ := ih t3 (by omega) name (label ++ [UInt8.ofNat (oct d e g)]) wire got h hn hw hl
                    refine ⟨a, b, c', .inr ?_⟩
                    rcases d' with d' | d'
                    · exact absurd d'.2 (by simp)
                    · exact getLast_cons (getLast_cons (getLast_cons (getLast_cons d')))
                · rw [if_neg h1] at h; cases h
      · by_cases hc2 : c = 46
        · subst hc2
          rw [pRun_dot] at h
          by_cases h1 : label = []
          · rw [if_pos h1] at h; cases h
          · by_cases h2 : 63 < label.length
            · rw [if_neg h1, if_pos h2] at h; cases h
            · by_cases h3 : 255 < wire + (1 + label.length)
              · rw [if_neg h1, if_neg h2, if_pos h3] at h; cases h
              · rw [if_neg h1, if_neg h2, if_neg h3] at h
                obtain ⟨a, b, c', d'⟩ := ih t (by omega) (name ++ [label]) [] _ got h (by
                  intro r hr
                  rcases List.mem_append.1 hr with hr | hr
                  · exact hn r hr
                  · rw [List.mem_singleton.1 hr]; exact ⟨h1, by omega⟩) (by rw [wireOf_snoc]; omega) (by omega)
                refine ⟨a, b, c', .inr ?_⟩
                rcases d' with d' | d'
                · rw [d'.1]; rfl
                · exact getLast_cons d'
        · rw [pRun_plain c t name label wire hc hc2] at h
          obtain ⟨a, b, c', d'⟩ := ih t (by omega) name (label ++ [c]) wire got h hn hw hl
          refine ⟨a, b, c', .inr ?_⟩
          rcases d' with d' | d'
          · exact absurd d'.2 (by simp)
          · exact getLast_cons d'

theorem parse_some {s : List UInt8} {got : List (List UInt8)} (h : parse s = some got) :
    (∀ r ∈ got, good r) ∧ 1 + wireOf got ≤ 255 ∧ s.getLast? = some 46 := by
  unfold parse at h
  by_cases hs : s = [46]
  · rw [if_pos hs] at h
    cases h
    exact ⟨by simp, by simp [wireOf], by rw [hs]; rfl⟩
  · rw [if_neg hs] at h
    obtain ⟨a, b, c, d⟩ := pRun_some s.length s (Nat.le_refl _) [] [] 1 got h (by simp) (by simp [wireOf]) (by omega)
    refine ⟨a, b, ?_⟩
    rcases d with d | d
    · rw [d.1, pRun_nil] at h; simp at h
    · exact d

/-- The text that WellFormed writes of the labels that were read. -/
def again (got : List (List UInt8)) : List UInt8 := if got = [] then [46] else textOf (got.map fun r => (r, fun _ => 2))

theorem parse_again {got : List (List UInt8)} (h1 : ∀ r ∈ got, good r) (h2 : 1 + wireOf got ≤ 255) : parse (again got) = some got := by
  unfold again
  by_cases hg : got = []
  · rw [if_pos hg, hg]; rfl
  · have e : (got.map fun r => (r, fun (_ : Nat) => 2)).map Prod.fst = got := by
      rw [List.map_map]
      have : (Prod.fst ∘ fun r : List UInt8 => (r, fun (_ : Nat) => 2)) = id := rfl
      rw [this, List.map_id]
    rw [if_neg hg, parse_text _ (by simpa using hg) (by rw [e]; intro hh; rw [hh] at h1; exact (h1 [] (by simp)).1 rfl), e, if_pos ⟨h1, h2⟩]

theorem textOf_append (a b : List (List UInt8 × (Nat → Nat))) : textOf (a ++ b) = textOf a ++ textOf b := by
  induction a with
  | nil => simp [textOf]
  | cons x r ih => obtain ⟨raw, ms⟩ := x; simp [textOf, ih]

theorem spell_append (ms : Nat → Nat) (a b : List UInt8) : ∀ j, spell ms j (a ++ b) = spell ms j a ++ spell ms (j + a.length) b := by
  induction a with
  | nil => intro j; simp [spell]
  | cons c r ih =>
    intro j
    have e : j + 1 + r.length = j + (r.length + 1) := by omega
    simp [spell, ih, e]

theorem spell_le (ms : Nat → Nat) (a : List UInt8) : ∀ j, (spell ms j a).length ≤ 4 * a.length := by
  induction a with
  | nil => intro j; simp [spell]
  | cons c r ih =>
    intro j
    have := ih (j + 1)
    have := put_le c (ms j)
    simp [spell]; omega

theorem textOf_le (ls : List (List UInt8 × (Nat → Nat))) : (textOf ls).length ≤ 4 * wireOf (ls.map Prod.fst) := by
  induction ls with
  | nil => simp [textOf]
  | cons x r ih =>
    obtain ⟨raw, ms⟩ := x
    have := spell_le ms raw 0
    simp [textOf, wireOf]; omega

theorem wireOf_append (a b : List (List UInt8)) : wireOf (a ++ b) = wireOf a + wireOf b := by
  induction a with
  | nil => simp [wireOf]
  | cons x r ih => simp [wireOf, ih]; omega

theorem wireOf_take_le (a : List (List UInt8)) (k : Nat) : wireOf (a.take k) ≤ wireOf a := by
  have := wireOf_append (a.take k) (a.drop k)
  rw [List.take_append_drop] at this
  omega

theorem take_succ_get {α : Type} (l : List α) (k : Nat) (h : k < l.length) : l.take (k + 1) = l.take k ++ [l[k]] := by
  rw [List.take_succ_eq_append_getElem h]

theorem length_le_wireOf (a : List (List UInt8)) : a.length ≤ wireOf a := by
  induction a with
  | nil => simp [wireOf]
  | cons x r ih => simp [wireOf]; omega

/-- The labels with every octet spelt as three digits. -/
def twos (ns : List (List UInt8)) : List (List UInt8 × (Nat → Nat)) := ns.map fun r => (r, fun _ => 2)
theorem twos_fst (ns : List (List UInt8)) : (twos ns).map Prod.fst = ns := by
  unfold twos
  rw [List.map_map]
  have : (Prod.fst ∘ fun r : List UInt8 => (r, fun (_ : Nat) => 2)) = id := rfl
  rw [this, List.map_id]
theorem twos_append (a b : List (List UInt8)) : twos (a ++ b) = twos a ++ twos b := by simp [twos]

end Go.Proofs.YbulkaxhmFmt
