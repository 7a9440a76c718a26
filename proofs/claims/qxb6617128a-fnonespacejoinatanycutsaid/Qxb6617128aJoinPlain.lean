import Derived.Test.Qxb6617128aPlain
namespace Go.Proofs.Qxb6617128a

/-- was the last byte a blank? -/
def stBl : Bool → List UInt8 → Bool
  | b, [] => b
  | _, c :: l => stBl (isBl c) l

theorem osp_append (l m : List UInt8) : ∀ b, osp b (l ++ m) = osp b l ++ osp (stBl b l) m := by
  induction l with
  | nil => intro b; simp [osp, stBl]
  | cons c l ih =>
    intro b
    by_cases h : isBl c = true
    · cases b <;> simp [osp, stBl, h, ih]
    · have h' : isBl c = false := by simpa using h
      simp [osp, stBl, h', ih]

theorem isBl_32 : isBl 32 = true := by decide
theorem isBl_ne {c : UInt8} (h : isBl c = false) : (c == 32) = false := by
  unfold isBl at h; simp only [Bool.or_eq_false_iff] at h; exact h.1
theorem isBl_ne9 {c : UInt8} (h : isBl c = false) : (c == 9) = false := by
  unfold isBl at h; simp only [Bool.or_eq_false_iff] at h; exact h.2

theorem osp_last (l : List UInt8) : ∀ (p : UInt8) (b : Bool), (p == 32) = b → ((osp b l).getLastD p == 32) = stBl b l := by
  induction l with
  | nil => intro p b h; simpa [osp, stBl] using h
  | cons c l ih =>
    intro p b h
    by_cases hc : isBl c = true
    · cases b
      · simp only [osp, stBl, hc, if_true, Bool.false_eq_true, if_false, List.getLastD_cons]
        exact ih 32 true (by decide)
      · simp only [osp, stBl, hc, if_true]
        exact ih p true h
    · have h' : isBl c = false := by simpa using hc
      simp only [osp, stBl, h', Bool.false_eq_true, if_false, List.getLastD_cons]
      exact ih c false (isBl_ne h')

theorem osp_true (l : List UInt8) : osp true l = if (osp false l).head? = some 32 then (osp false l).drop 1 else osp false l := by
  cases l with
  | nil => simp [osp]
  | cons c l =>
    by_cases hc : isBl c = true
    · simp [osp, hc]
    · have h' : isBl c = false := by simpa using hc
      have := isBl_ne h'
      have h3 : c ≠ 32 := by simpa using this
      simp [osp, h', h3]

theorem osp_twice (l : List UInt8) : ∀ b, osp b (osp b l) = osp b l := by
  induction l with
  | nil => intro b; simp [osp]
  | cons c l ih =>
    intro b
    by_cases hc : isBl c = true
    · cases b
      · simp [osp, hc, isBl_32, ih]
      · simp [osp, hc, ih]
    · have h' : isBl c = false := by simpa using hc
      simp [osp, h', ih]

/-- how many blanks follow a blank -/
def pairs : Bool → List UInt8 → Nat
  | _, [] => 0
  | b, c :: l => (if b && isBl c then 1 else 0) + pairs (isBl c) l

theorem osp_pairs (l : List UInt8) : ∀ b, (osp b l).length + pairs b l = l.length := by
  induction l with
  | nil => intro b; simp [osp, pairs]
  | cons c l ih =>
    intro b
    by_cases hc : isBl c = true
    · have := ih true
      cases b <;> simp [osp, pairs, hc] <;> omega
    · have h' : isBl c = false := by simpa using hc
      have := ih false
      simp [osp, pairs, h']; omega

theorem osp_noTab (l : List UInt8) : ∀ b, (osp b l).any (· == 9) = false := by
  induction l with
  | nil => intro b; simp [osp]
  | cons c l ih =>
    intro b
    by_cases hc : isBl c = true
    · cases b
      · have := ih true; simp [osp, hc] at this ⊢; exact this
      · have := ih true; simp [osp, hc] at this ⊢; exact this
    · have h' : isBl c = false := by simpa using hc
      have := ih false
      have h9 := isBl_ne9 h'
      simp [osp, h'] at this h9 ⊢; exact ⟨h9, this⟩

def tabIn (l : List UInt8) : Bool := l.any (· == 9)
theorem tabIn_cons (c : UInt8) (l : List UInt8) : tabIn (c :: l) = ((c == 9) || tabIn l) := rfl
theorem tabIn_nil : tabIn [] = false := rfl
theorem tabIn_osp (l : List UInt8) (b : Bool) : tabIn (osp b l) = false := osp_noTab l b

def nbF (t : Bool) (c : UInt8) : Bool := c == 32 || (t && c == 9)
def nb (t : Bool) (l : List UInt8) : List UInt8 := l.filter fun c => !nbF t c

theorem nb_osp (l : List UInt8) : ∀ b, nb false (osp b l) = nb true l := by
  induction l with
  | nil => intro b; simp [osp, nb]
  | cons c l ih =>
    intro b
    by_cases hc : isBl c = true
    · have e : nbF true c = true := by simpa [nbF, isBl] using hc
      have := ih true
      have e3 : nbF false 32 = true := by decide
      unfold nb at this ⊢
      cases b <;> simp [osp, hc, e, e3, this]
    · have h' : isBl c = false := by simpa using hc
      have e : nbF true c = false := by simpa [nbF, isBl] using h'
      have e2 : nbF false c = false := by have := isBl_ne h'; simpa [nbF] using this
      have := ih false
      unfold nb at this ⊢
      simp [osp, h', e, e2, this]
end Go.Proofs.Qxb6617128a
