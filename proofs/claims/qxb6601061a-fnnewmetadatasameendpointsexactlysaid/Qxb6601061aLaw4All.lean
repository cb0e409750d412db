/-
  THE LAW 'FnNewMetadataSameEndpointsExactly': its cases put together.
-/
import Derived.Test.Qxb6601061aLaw4
namespace Go.Proofs.Qxb6601061a
open Go.RowKit

theorem law4_any (a b : ByteArray) (w : World) :
    Calls Try.prog 4 #[.string a, .string b] w fun e w' => e = .returned (.bool true) ∧ Below w.heap.size w w' := by
  by_cases hn : a.size + b.size ≤ 1048576
  · obtain ⟨ta, hta⟩ := trim_ex a
    obtain ⟨tb, htb⟩ := trim_ex b
    have hs := same_iff hta htb
    by_cases h1 : a = b
    · exact law4_case1 a b ta tb w hn hta htb (decide_eq_true (hs.2 (.inl h1))) (by rw [beq_bytes]; exact decide_eq_true h1)
    · have e1 : (a.toList == b.toList) = false := by rw [beq_bytes]; exact decide_eq_false h1
      by_cases h2 : Plus a b
      · have e2 : (a.toList == (b ++ ⟨#[47]⟩).toList) = true := by rw [beq_bytes]; exact decide_eq_true h2
        have h3 : ¬ Plus b a := fun h => by have := h.size; have := h2.size; omega
        have e3 : (b.toList == (a ++ ⟨#[47]⟩).toList) = false := by rw [beq_bytes]; exact decide_eq_false h3
        by_cases he : Ends b
        · exact law4_case3 a b ta tb w hn hta htb (decide_eq_false fun h => by
            rcases hs.1 h with h | ⟨_, h⟩ | ⟨h, _⟩
            · exact h1 h
            · exact h he
            · exact h3 h) e1 e2 e3 (fun w => ends_yes b w (by omega) he)
        · exact law4_case2 a b ta tb w hn hta htb (decide_eq_true (hs.2 (.inr (.inl ⟨h2, he⟩)))) e1 e2 (fun w => ends_no b w (by omega) he)
      · have e2 : (a.toList == (b ++ ⟨#[47]⟩).toList) = false := by rw [beq_bytes]; exact decide_eq_false h2
        by_cases h3 : Plus b a
        · have e3 : (b.toList == (a ++ ⟨#[47]⟩).toList) = true := by rw [beq_bytes]; exact decide_eq_true h3
          by_cases he : Ends a
          · exact law4_case5 a b ta tb w hn hta htb (decide_eq_false fun h => by
              rcases hs.1 h with h | ⟨h, _⟩ | ⟨_, h⟩
              · exact h1 h
              · exact h2 h
              · exact h he) e1 e2 e3 (fun w => ends_yes a w (by omega) he)
          · exact law4_case4 a b ta tb w hn hta htb (decide_eq_true (hs.2 (.inr (.inr ⟨h3, he⟩)))) e1 e2 e3 (fun w => ends_no a w (by omega) he)
        · have e3 : (b.toList == (a ++ ⟨#[47]⟩).toList) = false := by rw [beq_bytes]; exact decide_eq_false h3
          exact law4_case6 a b ta tb w hn hta htb (decide_eq_false fun h => by
            rcases hs.1 h with h | ⟨h, _⟩ | ⟨h, _⟩
            · exact h1 h
            · exact h2 h
            · exact h3 h) e1 e2 e3
  · exact law4_big a b w (by omega)
end Go.Proofs.Qxb6601061a
