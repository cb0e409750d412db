/-
  THE PLAIN PART: hexadecimal digits; no Go in sight.
-/
namespace Go.Proofs.Qxb6604126aDoor.Pl

/-- The value of a hexadecimal digit. -/
def hexV (c : UInt8) : Option Nat :=
  if 48 ≤ c.toNat ∧ c.toNat ≤ 57 then some (c.toNat - 48)
  else if 97 ≤ c.toNat ∧ c.toNat ≤ 102 then some (c.toNat - 87)
  else if 65 ≤ c.toNat ∧ c.toNat ≤ 70 then some (c.toNat - 55)
  else none

/-- The number that a row of digits spells, behind acc. -/
def hexP : Nat → List UInt8 → Option Nat
  | acc, [] => some acc
  | acc, c :: l => match hexV c with
    | some d => hexP (acc * 16 + d) l
    | none => none

theorem hexP_nil (acc : Nat) : hexP acc [] = some acc := rfl
theorem hexP_hit (acc d : Nat) (c : UInt8) (l : List UInt8) (h : hexV c = some d) : hexP acc (c :: l) = hexP (acc * 16 + d) l := by simp [hexP, h]
theorem hexP_miss (acc : Nat) (c : UInt8) (l : List UInt8) (h : hexV c = none) : hexP acc (c :: l) = none := by simp [hexP, h]

/-- The byte with bit 32 set. -/
def lo (c : UInt8) : Nat := c.toNat ||| 32

theorem lo_all : ∀ n : Fin 256, (n.val ||| 32) ≤ 255 ∧
    ((48 ≤ n.val ∧ n.val ≤ 57) ∨
     (¬ (48 ≤ n.val ∧ n.val ≤ 57) ∧ 97 ≤ (n.val ||| 32) ∧ (n.val ||| 32) ≤ 102 ∧ ((97 ≤ n.val ∧ n.val ≤ 102 ∧ n.val - 87 = (n.val ||| 32) - 87) ∨ (65 ≤ n.val ∧ n.val ≤ 70 ∧ n.val - 55 = (n.val ||| 32) - 87))) ∨
     (¬ (48 ≤ n.val ∧ n.val ≤ 57) ∧ ¬ (97 ≤ n.val ∧ n.val ≤ 102) ∧ ¬ (65 ≤ n.val ∧ n.val ≤ 70) ∧ ¬ (97 ≤ (n.val ||| 32) ∧ (n.val ||| 32) ≤ 102))) := by decide +kernel

theorem lo_le (c : UInt8) : lo c ≤ 255 := (lo_all ⟨c.toNat, c.toNat_lt⟩).1

/-- A byte is a decimal digit, a letter of the hexadecimal digits, or neither. -/
theorem hexV_cases (c : UInt8) :
    (48 ≤ c.toNat ∧ c.toNat ≤ 57 ∧ hexV c = some (c.toNat - 48)) ∨
    (¬ (48 ≤ c.toNat ∧ c.toNat ≤ 57) ∧ 97 ≤ lo c ∧ lo c ≤ 102 ∧ hexV c = some (lo c - 87)) ∨
    (¬ (48 ≤ c.toNat ∧ c.toNat ≤ 57) ∧ ¬ (97 ≤ lo c ∧ lo c ≤ 102) ∧ hexV c = none) := by
  rcases (lo_all ⟨c.toNat, c.toNat_lt⟩).2 with h | ⟨h1, h2, h3, h4⟩ | ⟨h1, h2, h3, h4⟩
  · exact .inl ⟨h.1, h.2, by simp only [hexV]; rw [if_pos h]⟩
  · refine .inr (.inl ⟨h1, h2, h3, ?_⟩)
    rcases h4 with ⟨ha, hb, he⟩ | ⟨ha, hb, he⟩
    · simp only [hexV, lo] at *
      rw [if_neg h1, if_pos ⟨ha, hb⟩, he]
    · simp only [hexV, lo] at *
      rw [if_neg h1, if_neg (by omega), if_pos ⟨ha, hb⟩, he]
  · refine .inr (.inr ⟨h1, h4, ?_⟩)
    simp only [hexV] at *
    rw [if_neg h1, if_neg h2, if_neg h3]

theorem hexV_le {c : UInt8} {d : Nat} (h : hexV c = some d) : d ≤ 15 := by
  unfold hexV at h
  split at h
  · cases h; omega
  · split at h
    · cases h; omega
    · split at h
      · cases h; omega
      · cases h

end Go.Proofs.Qxb6604126aDoor.Pl
