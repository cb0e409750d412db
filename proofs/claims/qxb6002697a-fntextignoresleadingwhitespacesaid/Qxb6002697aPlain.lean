/-
  THE PLAIN PART: what Text answers, on lists of bytes; no Go in sight.
-/
namespace Go.Proofs.Qxb6002697a.Pl

/-- JSON white space. -/
def isWS (c : UInt8) : Bool := c == 32 || c == 9 || c == 10 || c == 13

/-- What Text keeps of l, from the state (inString, escaped) on. -/
def keep : Bool → Bool → List UInt8 → List UInt8
  | _, _, [] => []
  | ins, esc, c :: l =>
    if esc then c :: keep ins false l
    else if ins then c :: keep (c != 34) (c == 92) l
    else if c == 34 then c :: keep true false l
    else if isWS c then keep false false l
    else c :: keep false false l

theorem keep_nil (ins esc : Bool) : keep ins esc [] = [] := by cases ins <;> cases esc <;> rfl

theorem keep_esc (ins : Bool) (c : UInt8) (l : List UInt8) : keep ins true (c :: l) = c :: keep ins false l := by
  simp [keep]
theorem keep_ins (c : UInt8) (l : List UInt8) : keep true false (c :: l) = c :: keep (c != 34) (c == 92) l := by
  simp [keep]
theorem keep_quote (l : List UInt8) : keep false false (34 :: l) = 34 :: keep true false l := by
  simp [keep]
theorem keep_ws (c : UInt8) (l : List UInt8) (h : isWS c = true) : keep false false (c :: l) = keep false false l := by
  have : (c == 34) = false := by
    simp only [isWS, Bool.or_eq_true, beq_iff_eq] at h
    rcases h with ((h | h) | h) | h <;> subst h <;> rfl
  simp [keep, this, h]
theorem keep_plain (c : UInt8) (l : List UInt8) (h : isWS c = false) (h2 : (c == 34) = false) : keep false false (c :: l) = c :: keep false false l := by
  simp [keep, h, h2]

theorem keep_length (l : List UInt8) : ∀ ins esc, (keep ins esc l).length ≤ l.length := by
  induction l with
  | nil => intro ins esc; simp [keep_nil]
  | cons c l ih =>
    intro ins esc
    unfold keep
    split
    · simpa using ih _ _
    · split
      · simpa using ih _ _
      · split
        · simpa using ih _ _
        · split
          · have := ih false false; simp; omega
          · simpa using ih _ _

/-- Outside a string the next byte that is kept is no white space. -/
theorem keep_head (l : List UInt8) (c : UInt8) (r : List UInt8) (h : keep false false l = c :: r) : isWS c = false := by
  induction l with
  | nil => simp [keep_nil] at h
  | cons d l ih =>
    by_cases hw : isWS d = true
    · rw [keep_ws d l hw] at h; exact ih h
    · simp only [Bool.not_eq_true] at hw
      by_cases hq : d = 34
      · subst hq
        rw [keep_quote] at h
        obtain ⟨rfl, _⟩ := List.cons.inj h
        rfl
      · rw [keep_plain d l hw (by simpa using hq)] at h
        obtain ⟨rfl, _⟩ := List.cons.inj h
        exact hw

/-- Is there a quote? -/
def hasQ (l : List UInt8) : Bool := l.any fun c => c == 34

/-- Where there is no quote nothing that is kept is white space. -/
theorem keep_noquote (l : List UInt8) (h : hasQ l = false) : ∀ c ∈ keep false false l, isWS c = false := by
  induction l with
  | nil => intro c hc; simp [keep_nil] at hc
  | cons d l ih =>
    simp only [hasQ, List.any_cons, Bool.or_eq_false_iff] at h
    have hd : (d == 34) = false := h.1
    by_cases hw : isWS d = true
    · rw [keep_ws d l hw]; exact ih h.2
    · simp only [Bool.not_eq_true] at hw
      rw [keep_plain d l hw hd]
      intro c hc
      rcases List.mem_cons.1 hc with rfl | hc
      · exact hw
      · exact ih h.2 c hc

/-- White space ahead is not kept. -/
theorem keep_pad (p l : List UInt8) (h : ∀ c ∈ p, isWS c = true) : keep false false (p ++ l) = keep false false l := by
  induction p with
  | nil => rfl
  | cons c p ih =>
    rw [List.cons_append, keep_ws c _ (h c (by simp))]
    exact ih (fun d hd => h d (by simp [hd]))

/-- One byte: kept, or white space outside a string. -/
theorem keep_cases (ins esc : Bool) (c : UInt8) (r : List UInt8) :
    (∃ i e, keep ins esc (c :: r) = c :: keep i e r) ∨ (isWS c = true ∧ keep ins esc (c :: r) = keep false false r) := by
  cases esc with
  | true => exact .inl ⟨ins, false, keep_esc ins c r⟩
  | false =>
    cases ins with
    | true => exact .inl ⟨_, _, keep_ins c r⟩
    | false =>
      by_cases hw : isWS c = true
      · exact .inr ⟨hw, keep_ws c r hw⟩
      · simp only [Bool.not_eq_true] at hw
        by_cases hq : c = 34
        · subst hq; exact .inl ⟨_, _, keep_quote r⟩
        · exact .inl ⟨_, _, keep_plain c r hw (by simpa using hq)⟩

theorem hasQ_take (l : List UInt8) (m : Nat) (h : m < l.length) : hasQ (l.take (m + 1)) = (hasQ (l.take m) || l[m] == 34) := by
  rw [List.take_succ_eq_append_getElem h]
  unfold hasQ
  rw [List.any_append]
  simp

end Go.Proofs.Qxb6002697a.Pl
