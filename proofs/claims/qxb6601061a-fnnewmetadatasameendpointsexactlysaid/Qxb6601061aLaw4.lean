/-
  THE WALKS (3): the law 'FnNewMetadataSameEndpointsExactly'.
-/
import Derived.Test.Qxb6601061aWalks
namespace Go.Proofs.Qxb6601061a
open Go.RowKit
set_option linter.unusedVariables false

theorem bytes8_yes (a b : ByteArray) (w : World) (hn : a.size + b.size ≤ 1048576) :
    Calls Try.prog 8 #[.string a, .string b] w fun e w' => e = .returned (.bool true) ∧ w' = w := by
  go_enter Try.func8, Try.ntmps8
  go_wp2
  go_ret
  exact ⟨rfl, rfl⟩
theorem bytes8_no (a b : ByteArray) (w : World) (hn : 1048576 < a.size + b.size) :
    Calls Try.prog 8 #[.string a, .string b] w fun e w' => e = .returned (.bool false) ∧ w' = w := by
  by_cases h1 : 1048576 < a.size
  · go_enter Try.func8, Try.ntmps8
    go_wp2
    go_ret
    exact ⟨rfl, rfl⟩
  · by_cases h2 : 1048576 < b.size
    · go_enter Try.func8, Try.ntmps8
      go_wp2
      go_ret
      exact ⟨rfl, rfl⟩
    · go_enter Try.func8, Try.ntmps8
      go_wp2
      go_ret
      exact ⟨rfl, rfl⟩
theorem law4_big (a b : ByteArray) (w : World) (hn : 1048576 < a.size + b.size) :
    Calls Try.prog 4 #[.string a, .string b] w fun e w' => e = .returned (.bool true) ∧ Below w.heap.size w w' := by
  go_enter Try.func4, Try.ntmps4
  go_wp2_with (go_at_call 8; refine (bytes8_no _ _ _ hn).mono ?_; rintro e w' ⟨rfl, rfl⟩)
  go_ret
  exact ⟨rfl, Below.refl _ _⟩

theorem fact_eq (p q c : ByteArray) (r : Bool) (h : decide (p = q) = r) : ((p ++ c).toList == (q ++ c).toList) = r := by
  rw [beq_bytes, ← h]
  exact decide_eq_decide.2 (tail_iff p q c)

set_option maxHeartbeats 2000000 in
theorem law4_case1 (a b ta tb : ByteArray) (w : World) (hn : a.size + b.size ≤ 1048576) (hta : Trim a ta) (htb : Trim b tb) (hr : decide (ta = tb) = true) (e1 : (a.toList == b.toList) = true) :
    Calls Try.prog 4 #[.string a, .string b] w fun e w' => e = .returned (.bool true) ∧ Below w.heap.size w w' := by
  have hA := fun w => zzmeta_any a ta w (by omega) hta
  have hB := fun w => zzmeta_any b tb w (by omega) htb
  have f1 := fact_eq ta tb tokP _ hr
  have f2 := fact_eq ta tb jwkP _ hr
  clear hta htb hr
  generalize ta ++ tokP = p at *
  generalize ta ++ jwkP = q at *
  generalize tb ++ tokP = p' at *
  generalize tb ++ jwkP = q' at *
  go_enter Try.func4, Try.ntmps4
  go_wp2_with (go_at_call 8; refine (bytes8_yes _ _ _ hn).mono ?_; rintro e w' ⟨rfl, rfl⟩)
  refine (hA _).mono ?_
  rintro e w1 ⟨⟨a3, n3, c3, a4, n4, c4, a5, n5, c5, rfl⟩, hb1⟩
  clear hA
  go_wp2_with fail
  refine (hB _).mono ?_
  rintro e w2 ⟨⟨b3, m3, d3, b4, m4, d4, b5, m5, d5, rfl⟩, hb2⟩
  clear hB
  have x1 : w2.cell? ⟨w1.heap.size, 1, none⟩ = some (.string p) := (hb2.cell (p := ⟨w1.heap.size, 1, none⟩) (by simp)).trans (by simp)
  have x2 : w2.cell? ⟨w1.heap.size, 2, none⟩ = some (.string q) := (hb2.cell (p := ⟨w1.heap.size, 2, none⟩) (by simp)).trans (by simp)
  have hz : w1.heap.size < w2.heap.size := by have := hb2.size; simp at this; omega
  have hb3 : ∀ o, Below w'.heap.size w' (w2.alloc o) := fun o => ((hb1.alloc hb1.size _).trans (hb2.mono (by have := hb1.size; simp; omega))).alloc (by have := hb1.size; omega) o
  clear hb1 hb2
  go_wp2_with fail
  go_ret
  exact ⟨by simp [*], hb3 _⟩

set_option maxHeartbeats 2000000 in
theorem law4_case2 (a b ta tb : ByteArray) (w : World) (hn : a.size + b.size ≤ 1048576) (hta : Trim a ta) (htb : Trim b tb) (hr : decide (ta = tb) = true) (e1 : (a.toList == b.toList) = false) (e2 : (a.toList == (b ++ ⟨#[47]⟩).toList) = true) (h6 : ∀ w, Calls Try.prog 6 #[.string b] w fun e w' => e = .returned (.bool false) ∧ w' = w) :
    Calls Try.prog 4 #[.string a, .string b] w fun e w' => e = .returned (.bool true) ∧ Below w.heap.size w w' := by
  have hA := fun w => zzmeta_any a ta w (by omega) hta
  have hB := fun w => zzmeta_any b tb w (by omega) htb
  have f1 := fact_eq ta tb tokP _ hr
  have f2 := fact_eq ta tb jwkP _ hr
  clear hta htb hr
  generalize ta ++ tokP = p at *
  generalize ta ++ jwkP = q at *
  generalize tb ++ tokP = p' at *
  generalize tb ++ jwkP = q' at *
  go_enter Try.func4, Try.ntmps4
  go_wp2_with (go_at_call 8; refine (bytes8_yes _ _ _ hn).mono ?_; rintro e w' ⟨rfl, rfl⟩)
  refine (h6 _).mono ?_
  rintro e w' ⟨rfl, rfl⟩
  clear h6
  go_wp2_with fail
  refine (hA _).mono ?_
  rintro e w1 ⟨⟨a3, n3, c3, a4, n4, c4, a5, n5, c5, rfl⟩, hb1⟩
  clear hA
  go_wp2_with fail
  refine (hB _).mono ?_
  rintro e w2 ⟨⟨b3, m3, d3, b4, m4, d4, b5, m5, d5, rfl⟩, hb2⟩
  clear hB
  have x1 : w2.cell? ⟨w1.heap.size, 1, none⟩ = some (.string p) := (hb2.cell (p := ⟨w1.heap.size, 1, none⟩) (by simp)).trans (by simp)
  have x2 : w2.cell? ⟨w1.heap.size, 2, none⟩ = some (.string q) := (hb2.cell (p := ⟨w1.heap.size, 2, none⟩) (by simp)).trans (by simp)
  have hz : w1.heap.size < w2.heap.size := by have := hb2.size; simp at this; omega
  have hb3 : ∀ o, Below w'.heap.size w' (w2.alloc o) := fun o => ((hb1.alloc hb1.size _).trans (hb2.mono (by have := hb1.size; simp; omega))).alloc (by have := hb1.size; omega) o
  clear hb1 hb2
  go_wp2_with fail
  go_ret
  exact ⟨by simp [*], hb3 _⟩

set_option maxHeartbeats 2000000 in
theorem law4_case3 (a b ta tb : ByteArray) (w : World) (hn : a.size + b.size ≤ 1048576) (hta : Trim a ta) (htb : Trim b tb) (hr : decide (ta = tb) = false) (e1 : (a.toList == b.toList) = false) (e2 : (a.toList == (b ++ ⟨#[47]⟩).toList) = true) (e3 : (b.toList == (a ++ ⟨#[47]⟩).toList) = false) (h6 : ∀ w, Calls Try.prog 6 #[.string b] w fun e w' => e = .returned (.bool true) ∧ w' = w) :
    Calls Try.prog 4 #[.string a, .string b] w fun e w' => e = .returned (.bool true) ∧ Below w.heap.size w w' := by
  have hA := fun w => zzmeta_any a ta w (by omega) hta
  have hB := fun w => zzmeta_any b tb w (by omega) htb
  have f1 := fact_eq ta tb tokP _ hr
  have f2 := fact_eq ta tb jwkP _ hr
  clear hta htb hr
  generalize ta ++ tokP = p at *
  generalize ta ++ jwkP = q at *
  generalize tb ++ tokP = p' at *
  generalize tb ++ jwkP = q' at *
  go_enter Try.func4, Try.ntmps4
  go_wp2_with (go_at_call 8; refine (bytes8_yes _ _ _ hn).mono ?_; rintro e w' ⟨rfl, rfl⟩)
  refine (h6 _).mono ?_
  rintro e w' ⟨rfl, rfl⟩
  clear h6
  go_wp2_with fail
  refine (hA _).mono ?_
  rintro e w1 ⟨⟨a3, n3, c3, a4, n4, c4, a5, n5, c5, rfl⟩, hb1⟩
  clear hA
  go_wp2_with fail
  refine (hB _).mono ?_
  rintro e w2 ⟨⟨b3, m3, d3, b4, m4, d4, b5, m5, d5, rfl⟩, hb2⟩
  clear hB
  have x1 : w2.cell? ⟨w1.heap.size, 1, none⟩ = some (.string p) := (hb2.cell (p := ⟨w1.heap.size, 1, none⟩) (by simp)).trans (by simp)
  have x2 : w2.cell? ⟨w1.heap.size, 2, none⟩ = some (.string q) := (hb2.cell (p := ⟨w1.heap.size, 2, none⟩) (by simp)).trans (by simp)
  have hz : w1.heap.size < w2.heap.size := by have := hb2.size; simp at this; omega
  have hb3 : ∀ o, Below w'.heap.size w' (w2.alloc o) := fun o => ((hb1.alloc hb1.size _).trans (hb2.mono (by have := hb1.size; simp; omega))).alloc (by have := hb1.size; omega) o
  clear hb1 hb2
  go_wp2_with fail
  go_ret
  exact ⟨by simp [*], hb3 _⟩

set_option maxHeartbeats 2000000 in
theorem law4_case4 (a b ta tb : ByteArray) (w : World) (hn : a.size + b.size ≤ 1048576) (hta : Trim a ta) (htb : Trim b tb) (hr : decide (ta = tb) = true) (e1 : (a.toList == b.toList) = false) (e2 : (a.toList == (b ++ ⟨#[47]⟩).toList) = false) (e3 : (b.toList == (a ++ ⟨#[47]⟩).toList) = true) (h6 : ∀ w, Calls Try.prog 6 #[.string a] w fun e w' => e = .returned (.bool false) ∧ w' = w) :
    Calls Try.prog 4 #[.string a, .string b] w fun e w' => e = .returned (.bool true) ∧ Below w.heap.size w w' := by
  have hA := fun w => zzmeta_any a ta w (by omega) hta
  have hB := fun w => zzmeta_any b tb w (by omega) htb
  have f1 := fact_eq ta tb tokP _ hr
  have f2 := fact_eq ta tb jwkP _ hr
  clear hta htb hr
  generalize ta ++ tokP = p at *
  generalize ta ++ jwkP = q at *
  generalize tb ++ tokP = p' at *
  generalize tb ++ jwkP = q' at *
  go_enter Try.func4, Try.ntmps4
  go_wp2_with (go_at_call 8; refine (bytes8_yes _ _ _ hn).mono ?_; rintro e w' ⟨rfl, rfl⟩)
  refine (h6 _).mono ?_
  rintro e w' ⟨rfl, rfl⟩
  clear h6
  go_wp2_with fail
  refine (hA _).mono ?_
  rintro e w1 ⟨⟨a3, n3, c3, a4, n4, c4, a5, n5, c5, rfl⟩, hb1⟩
  clear hA
  go_wp2_with fail
  refine (hB _).mono ?_
  rintro e w2 ⟨⟨b3, m3, d3, b4, m4, d4, b5, m5, d5, rfl⟩, hb2⟩
  clear hB
  have x1 : w2.cell? ⟨w1.heap.size, 1, none⟩ = some (.string p) := (hb2.cell (p := ⟨w1.heap.size, 1, none⟩) (by simp)).trans (by simp)
  have x2 : w2.cell? ⟨w1.heap.size, 2, none⟩ = some (.string q) := (hb2.cell (p := ⟨w1.heap.size, 2, none⟩) (by simp)).trans (by simp)
  have hz : w1.heap.size < w2.heap.size := by have := hb2.size; simp at this; omega
  have hb3 : ∀ o, Below w'.heap.size w' (w2.alloc o) := fun o => ((hb1.alloc hb1.size _).trans (hb2.mono (by have := hb1.size; simp; omega))).alloc (by have := hb1.size; omega) o
  clear hb1 hb2
  go_wp2_with fail
  go_ret
  exact ⟨by simp [*], hb3 _⟩

set_option maxHeartbeats 2000000 in
theorem law4_case5 (a b ta tb : ByteArray) (w : World) (hn : a.size + b.size ≤ 1048576) (hta : Trim a ta) (htb : Trim b tb) (hr : decide (ta = tb) = false) (e1 : (a.toList == b.toList) = false) (e2 : (a.toList == (b ++ ⟨#[47]⟩).toList) = false) (e3 : (b.toList == (a ++ ⟨#[47]⟩).toList) = true) (h6 : ∀ w, Calls Try.prog 6 #[.string a] w fun e w' => e = .returned (.bool true) ∧ w' = w) :
    Calls Try.prog 4 #[.string a, .string b] w fun e w' => e = .returned (.bool true) ∧ Below w.heap.size w w' := by
  have hA := fun w => zzmeta_any a ta w (by omega) hta
  have hB := fun w => zzmeta_any b tb w (by omega) htb
  have f1 := fact_eq ta tb tokP _ hr
  have f2 := fact_eq ta tb jwkP _ hr
  clear hta htb hr
  generalize ta ++ tokP = p at *
  generalize ta ++ jwkP = q at *
  generalize tb ++ tokP = p' at *
  generalize tb ++ jwkP = q' at *
  go_enter Try.func4, Try.ntmps4
  go_wp2_with (go_at_call 8; refine (bytes8_yes _ _ _ hn).mono ?_; rintro e w' ⟨rfl, rfl⟩)
  refine (h6 _).mono ?_
  rintro e w' ⟨rfl, rfl⟩
  clear h6
  go_wp2_with fail
  refine (hA _).mono ?_
  rintro e w1 ⟨⟨a3, n3, c3, a4, n4, c4, a5, n5, c5, rfl⟩, hb1⟩
  clear hA
  go_wp2_with fail
  refine (hB _).mono ?_
  rintro e w2 ⟨⟨b3, m3, d3, b4, m4, d4, b5, m5, d5, rfl⟩, hb2⟩
  clear hB
  have x1 : w2.cell? ⟨w1.heap.size, 1, none⟩ = some (.string p) := (hb2.cell (p := ⟨w1.heap.size, 1, none⟩) (by simp)).trans (by simp)
  have x2 : w2.cell? ⟨w1.heap.size, 2, none⟩ = some (.string q) := (hb2.cell (p := ⟨w1.heap.size, 2, none⟩) (by simp)).trans (by simp)
  have hz : w1.heap.size < w2.heap.size := by have := hb2.size; simp at this; omega
  have hb3 : ∀ o, Below w'.heap.size w' (w2.alloc o) := fun o => ((hb1.alloc hb1.size _).trans (hb2.mono (by have := hb1.size; simp; omega))).alloc (by have := hb1.size; omega) o
  clear hb1 hb2
  go_wp2_with fail
  go_ret
  exact ⟨by simp [*], hb3 _⟩

set_option maxHeartbeats 2000000 in
theorem law4_case6 (a b ta tb : ByteArray) (w : World) (hn : a.size + b.size ≤ 1048576) (hta : Trim a ta) (htb : Trim b tb) (hr : decide (ta = tb) = false) (e1 : (a.toList == b.toList) = false) (e2 : (a.toList == (b ++ ⟨#[47]⟩).toList) = false) (e3 : (b.toList == (a ++ ⟨#[47]⟩).toList) = false) :
    Calls Try.prog 4 #[.string a, .string b] w fun e w' => e = .returned (.bool true) ∧ Below w.heap.size w w' := by
  have hA := fun w => zzmeta_any a ta w (by omega) hta
  have hB := fun w => zzmeta_any b tb w (by omega) htb
  have f1 := fact_eq ta tb tokP _ hr
  have f2 := fact_eq ta tb jwkP _ hr
  clear hta htb hr
  generalize ta ++ tokP = p at *
  generalize ta ++ jwkP = q at *
  generalize tb ++ tokP = p' at *
  generalize tb ++ jwkP = q' at *
  go_enter Try.func4, Try.ntmps4
  go_wp2_with (go_at_call 8; refine (bytes8_yes _ _ _ hn).mono ?_; rintro e w' ⟨rfl, rfl⟩)
  refine (hA _).mono ?_
  rintro e w1 ⟨⟨a3, n3, c3, a4, n4, c4, a5, n5, c5, rfl⟩, hb1⟩
  clear hA
  go_wp2_with fail
  refine (hB _).mono ?_
  rintro e w2 ⟨⟨b3, m3, d3, b4, m4, d4, b5, m5, d5, rfl⟩, hb2⟩
  clear hB
  have x1 : w2.cell? ⟨w1.heap.size, 1, none⟩ = some (.string p) := (hb2.cell (p := ⟨w1.heap.size, 1, none⟩) (by simp)).trans (by simp)
  have x2 : w2.cell? ⟨w1.heap.size, 2, none⟩ = some (.string q) := (hb2.cell (p := ⟨w1.heap.size, 2, none⟩) (by simp)).trans (by simp)
  have hz : w1.heap.size < w2.heap.size := by have := hb2.size; simp at this; omega
  have hb3 : ∀ o, Below w'.heap.size w' (w2.alloc o) := fun o => ((hb1.alloc hb1.size _).trans (hb2.mono (by have := hb1.size; simp; omega))).alloc (by have := hb1.size; omega) o
  clear hb1 hb2
  go_wp2_with fail
  go_ret
  exact ⟨by simp [*], hb3 _⟩
end Go.Proofs.Qxb6601061a
