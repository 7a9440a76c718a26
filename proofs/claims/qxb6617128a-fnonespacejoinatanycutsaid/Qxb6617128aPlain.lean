namespace Go.Proofs.Qxb6617128a

/-- a blank: a space or a tab -/
def isBl (c : UInt8) : Bool := c == 32 || c == 9

/-- what oneSpace lays, 'b': was the byte before a blank? -/
def osp : Bool → List UInt8 → List UInt8
  | _, [] => []
  | b, c :: l => if isBl c then (if b then osp true l else 32 :: osp true l) else c :: osp false l

def detab (c : UInt8) : UInt8 := if c == 9 then 32 else c

/-- of each run of spaces the last -/
def lastSp : List UInt8 → List UInt8
  | [] => []
  | a :: l => match l with
    | [] => [a]
    | b :: _ => if a == 32 && b == 32 then lastSp l else a :: lastSp l

theorem lastSp_other (c : UInt8) (l : List UInt8) (h : (c == 32) = false) : lastSp (c :: l) = c :: lastSp l := by
  cases l with
  | nil => simp [lastSp]
  | cons b t => simp [lastSp, h]

theorem lastSp_two (l : List UInt8) : lastSp (32 :: 32 :: l) = lastSp (32 :: l) := by
  simp [lastSp]

theorem lastSp_one (c : UInt8) (l : List UInt8) (h : (c == 32) = false) : lastSp (32 :: c :: l) = 32 :: lastSp (c :: l) := by
  simp [lastSp, h]

theorem lastSp_osp (l : List UInt8) : lastSp (l.map detab) = osp false l ∧ lastSp (32 :: l.map detab) = 32 :: osp true l := by
  induction l with
  | nil => simp [lastSp, osp]
  | cons c l ih =>
    obtain ⟨i1, i2⟩ := ih
    by_cases hb : isBl c = true
    · have hd : detab c = 32 := by
        unfold isBl at hb; unfold detab
        by_cases h9 : (c == 9) = true
        · simp [h9]
        · simp [h9] at hb ⊢; exact hb
      simp only [List.map_cons, hd, osp, hb, if_true]
      exact ⟨by simpa using i2, by rw [lastSp_two]; exact i2⟩
    · have hd : detab c = c := by
        unfold isBl at hb; unfold detab
        by_cases h9 : (c == 9) = true
        · simp [h9] at hb
        · simp [h9]
      have h32 : (c == 32) = false := by
        unfold isBl at hb; simp at hb; simp [hb.1]
      simp only [List.map_cons, hd, osp, hb]
      rw [lastSp_one c _ h32, lastSp_other c _ h32, i1]
      simp

theorem osp_length (l : List UInt8) : ∀ b, (osp b l).length ≤ l.length := by
  induction l with
  | nil => intro b; simp [osp]
  | cons c l ih =>
    intro b
    have h1 := ih true
    have h2 := ih false
    unfold osp
    split
    · split <;> simp <;> omega
    · simp; omega
end Go.Proofs.Qxb6617128a
