/-
  The message as a list of bytes: its questions, its records. No Go here.
-/
set_option linter.unusedVariables false
set_option linter.unusedSimpArgs false
namespace Go.Proofs.YbulkaxhmFmt

def be16 (n : Nat) : List UInt8 := [UInt8.ofNat (n / 256), UInt8.ofNat (n % 256)]
theorem be16_length (n : Nat) : (be16 n).length = 2 := rfl

structure MQ where
  ls : List (List UInt8)
  ty : Nat
  cl : Nat

structure RRec where
  ty : Nat
  mid : List UInt8
  rd : List UInt8

def encLs : List (List UInt8) → List UInt8
  | [] => []
  | l :: t => UInt8.ofNat l.length :: (l ++ encLs t)
def encQ (q : MQ) : List UInt8 := encLs q.ls ++ (0 :: (be16 q.ty ++ be16 q.cl))
def encR (r : RRec) : List UInt8 := 0 :: (be16 r.ty ++ (r.mid ++ (be16 r.rd.length ++ r.rd)))
def encQs : List MQ → List UInt8
  | [] => []
  | q :: t => encQ q ++ encQs t
def encRs : List RRec → List UInt8
  | [] => []
  | r :: t => encR r ++ encRs t
def encOpts : List (Nat × List UInt8) → List UInt8
  | [] => []
  | o :: t => be16 o.1 ++ (be16 o.2.length ++ (o.2 ++ encOpts t))
def hdr (flags : UInt8) (nq no nopt : Nat) : List UInt8 := [18, 52, flags, 0] ++ (be16 nq ++ (be16 no ++ ([0, 0] ++ be16 nopt)))

theorem hdr_length (f : UInt8) (a b c : Nat) : (hdr f a b c).length = 12 := rfl

theorem encLs_append (a b : List (List UInt8)) : encLs (a ++ b) = encLs a ++ encLs b := by
  induction a with
  | nil => rfl
  | cons x t ih => simp [encLs, ih]
theorem encQs_append (a b : List MQ) : encQs (a ++ b) = encQs a ++ encQs b := by
  induction a with
  | nil => rfl
  | cons x t ih => simp [encQs, ih]
theorem encRs_append (a b : List RRec) : encRs (a ++ b) = encRs a ++ encRs b := by
  induction a with
  | nil => rfl
  | cons x t ih => simp [encRs, ih]
theorem encOpts_append (a b : List (Nat × List UInt8)) : encOpts (a ++ b) = encOpts a ++ encOpts b := by
  induction a with
  | nil => rfl
  | cons x t ih => simp [encOpts, ih]

def wireLs : List (List UInt8) → Nat
  | [] => 0
  | r :: t => 1 + r.length + wireLs t
theorem encLs_length (a : List (List UInt8)) : (encLs a).length = wireLs a := by
  induction a with
  | nil => rfl
  | cons x t ih => simp [encLs, wireLs, ih]; omega
theorem wireLs_append (a b : List (List UInt8)) : wireLs (a ++ b) = wireLs a + wireLs b := by
  induction a with
  | nil => simp [wireLs]
  | cons x r ih => simp [wireLs, ih]; omega
theorem wireLs_snoc (a : List (List UInt8)) (x : List UInt8) : wireLs (a ++ [x]) = wireLs a + (1 + x.length) := by
  rw [wireLs_append]; simp [wireLs]

/-- A label as the builder writes it. -/
def fixL (l : List UInt8) : List UInt8 := (if l.length = 0 then [97] else l).take 63
theorem fixL_pos (l : List UInt8) : 0 < (fixL l).length := by
  unfold fixL
  by_cases h : l.length = 0
  · rw [if_pos h]; simp
  · rw [if_neg h]; simp; omega
theorem fixL_le (l : List UInt8) : (fixL l).length ≤ 63 := by
  unfold fixL; simp; omega

/-- The labels of one question as the builder writes them: up to 255 octets. -/
def cutL : Nat → List (List UInt8) → List (List UInt8)
  | _, [] => []
  | wl, l :: t => if 255 < wl + 1 + (fixL l).length then [] else fixL l :: cutL (wl + (1 + (fixL l).length)) t

theorem cutL_good (t : List (List UInt8)) : ∀ wl, ∀ l ∈ cutL wl t, 0 < l.length ∧ l.length ≤ 63 := by
  induction t with
  | nil => intro wl l h; simp [cutL] at h
  | cons x r ih =>
    intro wl l h
    rw [cutL] at h
    split at h
    · simp at h
    · rcases List.mem_cons.1 h with h | h
      · rw [h]; exact ⟨fixL_pos x, fixL_le x⟩
      · exact ih _ l h
theorem cutL_wire (t : List (List UInt8)) : ∀ wl, wl ≤ 255 → wl + wireLs (cutL wl t) ≤ 255 := by
  induction t with
  | nil => intro wl h; simp [cutL, wireLs]; exact h
  | cons x r ih =>
    intro wl h
    rw [cutL]
    split
    · simp [wireLs]; exact h
    · have := ih (wl + (1 + (fixL x).length)) (by omega)
      simp only [wireLs]
      omega

def mqOf (labels : List (List UInt8)) (ty cl : Nat) : MQ := ⟨cutL 1 labels, ty, cl⟩
def orec (t : Nat) : RRec := ⟨if t = 41 then 1 else t, [0, 1, 0, 0, 0, 0], []⟩
def optrec (rd : List UInt8) : RRec := ⟨41, [16, 0, 0, 0, 0, 0], rd⟩

/-- What makes a question fit to be read. -/
def MQ.ok (q : MQ) : Prop := (∀ l ∈ q.ls, 0 < l.length ∧ l.length ≤ 63) ∧ 1 + wireLs q.ls ≤ 255 ∧ q.ty < 65536 ∧ q.cl < 65536
theorem mqOf_ok (labels : List (List UInt8)) (ty cl : Nat) (h1 : ty < 65536) (h2 : cl < 65536) : (mqOf labels ty cl).ok :=
  ⟨cutL_good labels 1, cutL_wire labels 1 (by omega), h1, h2⟩

def msgOf (flags : UInt8) (qs : List MQ) (no nopt : Nat) (rs : List RRec) : List UInt8 := hdr flags qs.length no nopt ++ (encQs qs ++ encRs rs)

theorem encQ_length (q : MQ) : (encQ q).length = wireLs q.ls + 5 := by simp [encQ, encLs_length, be16]
theorem encR_length (r : RRec) (h : r.mid.length = 6) : (encR r).length = 11 + r.rd.length := by simp [encR, be16, h]; omega

end Go.Proofs.YbulkaxhmFmt
