/-
  THE WALKS: mdEndsSlash, strings.TrimSuffix, newMetadata.
-/
import Derived.Test.Qxb6601061aProg
import Derived.Test.Qxb6601061aPlain
namespace Go.Proofs.Qxb6601061a
open Go.RowKit
set_option linter.unusedVariables false

theorem ends_yes (s : ByteArray) (w : World) (hs : s.size ≤ 2097152) (h : Ends s) :
    Calls Try.prog 6 #[.string s] w fun e w' => e = .returned (.bool true) ∧ w' = w := by
  obtain ⟨hp, hl⟩ := ends_last h
  have hl' : ((s[s.size - 1].toNat : Int) == 47) = true := by rw [last_int, hl]; rfl
  clear hl h
  go_enter Try.func6, Try.ntmps6
  go_wp2
  go_ret
  exact ⟨rfl, rfl⟩
theorem ends_no (s : ByteArray) (w : World) (hs : s.size ≤ 2097152) (h : ¬ Ends s) :
    Calls Try.prog 6 #[.string s] w fun e w' => e = .returned (.bool false) ∧ w' = w := by
  by_cases hp : 0 < s.size
  · have hl' : ((s[s.size - 1].toNat : Int) == 47) = false := by
      rw [last_int]
      exact decide_eq_false fun e => h (ends_of_last hp e)
    clear h
    go_enter Try.func6, Try.ntmps6
    go_wp2
    go_ret
    exact ⟨rfl, rfl⟩
  · clear h
    go_enter Try.func6, Try.ntmps6
    go_wp2
    go_ret
    exact ⟨rfl, rfl⟩

theorem trim_any (s t : ByteArray) (w : World) (hs : s.size ≤ 2097152) (h : Trim s t) :
    Calls Try.prog 10 #[.string s, .string ⟨#[47]⟩] w fun e w' => e = .returned (.string t) ∧ w' = w := by
  rcases h with h | ⟨rfl, h⟩
  · obtain ⟨hp, hl⟩ := ends_last ⟨_, h⟩
    have hx : ((s.extract (s.size - 1) s.size).toList == [47]) = true := by rw [tail_list s hp, hl]; rfl
    have HT : Hid (s.extract 0 (s.size - 1) = t) := head_plus h
    clear hl h
    go_enter Try.func10, Try.ntmps10
    go_wp2
    go_ret
    exact ⟨by rw [← HT.out]; rfl, rfl⟩
  · by_cases hp : 0 < t.size
    · have hx : ((t.extract (t.size - 1) t.size).toList == [47]) = false := by
        rw [tail_list t hp]
        have : t[t.size - 1] ≠ 47 := fun e => h (ends_of_last hp e)
        simp [this]
      clear h
      go_enter Try.func10, Try.ntmps10
      go_wp2
      go_ret
      exact ⟨rfl, rfl⟩
    · clear h
      go_enter Try.func10, Try.ntmps10
      go_wp2
      go_ret
      exact ⟨rfl, rfl⟩

theorem below4 (w : World) (o1 o2 o3 o4 : Obj) : Below w.heap.size w ((((w.alloc o1).alloc o2).alloc o3).alloc o4) :=
  ((((Below.refl _ w).alloc (Nat.le_refl _) o1).alloc (by simp) o2).alloc (by simp; omega) o3).alloc (by simp; omega) o4

def tokP : ByteArray := ⟨#[47, 111, 97, 117, 116, 104, 47, 116, 111, 107, 101, 110]⟩
def jwkP : ByteArray := ⟨#[47, 46, 119, 101, 108, 108, 45, 107, 110, 111, 119, 110, 47, 106, 119, 107, 115, 46, 106, 115, 111, 110]⟩

set_option maxHeartbeats 1000000 in
theorem meta_any (s t : ByteArray) (w : World) (hs : s.size ≤ 2097152) (h : Trim s t) :
    Calls Try.prog 9 #[.string s] w fun e w' => (∃ a3 n3 c3 a4 n4 c4 a5 n5 c5, e = .returned (.agg #[.string s, .string (t ++ tokP), .string (t ++ jwkP), .slice a3 n3 c3, .slice a4 n4 c4, .slice a5 n5 c5])) ∧ Below w.heap.size w w' := by
  have hz := h.size
  have hT := fun o => trim_any s t (w.alloc o) hs h
  clear h
  go_enter Try.func9, Try.ntmps9
  go_wp2_with fail
  refine (hT _).mono ?_
  rintro e w1 ⟨rfl, rfl⟩
  clear hT
  go_wp2_with fail
  exact bodyPost_ret (v := .agg #[.string s, .string (t ++ tokP), .string (t ++ jwkP), .slice (some ⟨w.heap.size + 1, 0, none⟩) 1 1, .slice (some ⟨w.heap.size + 1 + 1, 0, none⟩) 2 2, .slice (some ⟨w.heap.size + 1 + 1 + 1, 0, none⟩) 0 0])
    (by simp [results, Try.results9, go_sem, tokP, jwkP]) rfl ⟨⟨_, _, _, _, _, _, _, _, _, rfl⟩, below4 w _ _ _ _⟩

/-- Six stores into a block of the call's own. -/
theorem below6 {w w1 : World} {B : Nat} (h : Below B w w1) (b : Nat) (hb : B ≤ b) (v0 v1 v2 v3 v4 v5 : Value) :
    Below B w ((((((w1.setCell ⟨b, 0, none⟩ v0).setCell ⟨b, 1, none⟩ v1).setCell ⟨b, 2, none⟩ v2).setCell ⟨b, 3, none⟩ v3).setCell ⟨b, 4, none⟩ v4).setCell ⟨b, 5, none⟩ v5) :=
  (((((h.setCell (p := ⟨b, 0, none⟩) hb v0).setCell (p := ⟨b, 1, none⟩) hb v1).setCell (p := ⟨b, 2, none⟩) hb v2).setCell (p := ⟨b, 3, none⟩) hb v3).setCell (p := ⟨b, 4, none⟩) hb v4).setCell (p := ⟨b, 5, none⟩) hb v5

set_option maxHeartbeats 2000000 in
theorem zzmeta_any (s t : ByteArray) (w : World) (hs : s.size ≤ 2097152) (h : Trim s t) :
    Calls Try.prog 7 #[.string s] w fun e w' => (∃ a3 n3 c3 a4 n4 c4 a5 n5 c5, e = .returned (.agg #[.string s, .string (t ++ tokP), .string (t ++ jwkP), .slice a3 n3 c3, .slice a4 n4 c4, .slice a5 n5 c5])) ∧ Below w.heap.size w w' := by
  have hb0 : ∀ o, Below w.heap.size w (w.alloc o) := fun o => (Below.refl _ w).alloc (Nat.le_refl _) o
  have hT := fun o => meta_any s t (w.alloc o) hs h
  clear h
  generalize t ++ tokP = p at *
  generalize t ++ jwkP = q at *
  go_enter Try.func7, Try.ntmps7
  go_wp2_with fail
  refine (hT _).mono ?_
  rintro e w1 ⟨⟨a3, n3, c3, a4, n4, c4, a5, n5, c5, rfl⟩, hb⟩
  clear hT
  have hc : ∀ j, w1.cell? ⟨w.heap.size, j, none⟩ = _ := fun j => hb.cell (p := ⟨w.heap.size, j, none⟩) (by simp)
  have hf : ∀ j, w1.frozen? ⟨w.heap.size, j, none⟩ = _ := fun j => hb.frozen (p := ⟨w.heap.size, j, none⟩) (by simp)
  have x0 := (hc 0).trans (by simp; rfl)
  have x1 := (hc 1).trans (by simp; rfl)
  have x2 := (hc 2).trans (by simp; rfl)
  have x3 := (hc 3).trans (by simp; rfl)
  have x4 := (hc 4).trans (by simp; rfl)
  have x5 := (hc 5).trans (by simp; rfl)
  have y0 : w1.frozen? ⟨w.heap.size, 0, none⟩ = false := (hf 0).trans (by simp)
  have y1 : w1.frozen? ⟨w.heap.size, 1, none⟩ = false := (hf 1).trans (by simp)
  have y2 : w1.frozen? ⟨w.heap.size, 2, none⟩ = false := (hf 2).trans (by simp)
  have y3 : w1.frozen? ⟨w.heap.size, 3, none⟩ = false := (hf 3).trans (by simp)
  have y4 : w1.frozen? ⟨w.heap.size, 4, none⟩ = false := (hf 4).trans (by simp)
  have y5 : w1.frozen? ⟨w.heap.size, 5, none⟩ = false := (hf 5).trans (by simp)
  have hbb : Below w.heap.size w w1 := (hb0 _).trans (hb.mono (by simp))
  clear hc hf hb hb0
  have h6 := below6 hbb w.heap.size (Nat.le_refl _) (.string s) (.string p) (.string q) (.slice a3 n3 c3) (.slice a4 n4 c4) (.slice a5 n5 c5)
  go_wp2_with fail
  exact bodyPost_ret (v := .agg #[.string s, .string p, .string q, .slice a3 n3 c3, .slice a4 n4 c4, .slice a5 n5 c5]) (by simp [results, Try.results7, go_sem, x0, x1, x2, x3, x4, x5]) rfl ⟨⟨_, _, _, _, _, _, _, _, _, rfl⟩, h6⟩
end Go.Proofs.Qxb6601061a
