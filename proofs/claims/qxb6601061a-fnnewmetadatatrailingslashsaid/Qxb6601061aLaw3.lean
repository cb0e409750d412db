/-
  THE WALKS (2): the law 'FnNewMetadataTrailingSlash'.
-/
import Derived.Test.Qxb6601061aWalks
namespace Go.Proofs.Qxb6601061a
open Go.RowKit
set_option linter.unusedVariables false

theorem bytes5_yes (s : ByteArray) (w : World) (hn : s.size ≤ 1048576) :
    Calls Try.prog 5 #[.string s] w fun e w' => e = .returned (.bool true) ∧ w' = w := by
  go_enter Try.func5, Try.ntmps5
  go_wp2
  go_ret
  exact ⟨rfl, rfl⟩
theorem bytes5_no (s : ByteArray) (w : World) (hn : 1048576 < s.size) :
    Calls Try.prog 5 #[.string s] w fun e w' => e = .returned (.bool false) ∧ w' = w := by
  go_enter Try.func5, Try.ntmps5
  go_wp2
  go_ret
  exact ⟨rfl, rfl⟩
theorem law3_big (s : ByteArray) (w : World) (hn : 1048576 < s.size) :
    Calls Try.prog 3 #[.string s] w fun e w' => e = .returned (.bool true) ∧ Below w.heap.size w w' := by
  go_enter Try.func3, Try.ntmps3
  go_wp2_with (go_at_call 5; refine (bytes5_no _ _ hn).mono ?_; rintro e w' ⟨rfl, rfl⟩)
  go_ret
  exact ⟨rfl, Below.refl _ _⟩
theorem law3_ends (s : ByteArray) (w : World) (hn : s.size ≤ 1048576) (he : Ends s) :
    Calls Try.prog 3 #[.string s] w fun e w' => e = .returned (.bool true) ∧ Below w.heap.size w w' := by
  have h6 := ends_yes s w (by omega) he
  clear he
  go_enter Try.func3, Try.ntmps3
  go_wp2_with (go_at_call 5; refine (bytes5_yes _ _ hn).mono ?_; rintro e w' ⟨rfl, rfl⟩)
  refine h6.mono ?_
  rintro e w' ⟨rfl, rfl⟩
  go_wp2_with fail
  go_ret
  exact ⟨rfl, Below.refl _ _⟩

set_option maxHeartbeats 2000000 in
theorem law3_main (s : ByteArray) (w : World) (hn : s.size ≤ 1048576) (he : ¬ Ends s) :
    Calls Try.prog 3 #[.string s] w fun e w' => e = .returned (.bool true) ∧ Below w.heap.size w w' := by
  have h6 := ends_no s w (by omega) he
  have hA := fun w => zzmeta_any s s w (by omega) (.inr ⟨rfl, he⟩)
  have hB := fun w => zzmeta_any (s ++ ⟨#[47]⟩) s w (by rw [Plus.size (plus_self s)]; omega) (.inl (plus_self s))
  clear he
  generalize s ++ tokP = p at *
  generalize s ++ jwkP = q at *
  go_enter Try.func3, Try.ntmps3
  go_wp2_with (go_at_call 5; refine (bytes5_yes _ _ hn).mono ?_; rintro e w' ⟨rfl, rfl⟩)
  refine h6.mono ?_
  rintro e w' ⟨rfl, rfl⟩
  clear h6
  go_wp2_with fail
  refine (hA _).mono ?_
  rintro e w1 ⟨⟨a3, n3, c3, a4, n4, c4, a5, n5, c5, rfl⟩, hb1⟩
  clear hA
  go_wp2_with fail
  refine (hB _).mono ?_
  rintro e w2 ⟨⟨b3, m3, d3, b4, m4, d4, b5, m5, d5, rfl⟩, hb2⟩
  clear hB
  have x0 : w2.cell? ⟨w1.heap.size, 0, none⟩ = some (.string s) := (hb2.cell (p := ⟨w1.heap.size, 0, none⟩) (by simp)).trans (by simp)
  have x1 : w2.cell? ⟨w1.heap.size, 1, none⟩ = some (.string p) := (hb2.cell (p := ⟨w1.heap.size, 1, none⟩) (by simp)).trans (by simp)
  have x2 : w2.cell? ⟨w1.heap.size, 2, none⟩ = some (.string q) := (hb2.cell (p := ⟨w1.heap.size, 2, none⟩) (by simp)).trans (by simp)
  have hz : w1.heap.size < w2.heap.size := by have := hb2.size; simp at this; omega
  have hb3 : ∀ o, Below w'.heap.size w' (w2.alloc o) := fun o => ((hb1.alloc hb1.size _).trans (hb2.mono (by have := hb1.size; simp; omega))).alloc (by have := hb1.size; omega) o
  clear hb1 hb2
  go_wp2_with fail
  go_ret
  exact ⟨by simp, hb3 _⟩
end Go.Proofs.Qxb6601061a
