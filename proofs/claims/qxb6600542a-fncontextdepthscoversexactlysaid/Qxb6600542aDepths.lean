/-
  THE WALKS (2): contextDepths, b1cdCovers, b1cdWant.
-/
import Derived.Test.Qxb6600542aWalks
namespace Go.Proofs.Qxb6600542a
open Go.RowKit
set_option linter.unusedVariables false

/-- b1cdWant. -/
def wantB (D N : Bool) (e : Int) : Bool := if !D && !N then true else (D && e == 0) || (N && decide (1 ≤ e))
/-- The range's lower end. -/
def mnOf (D N : Bool) : Int := if N && !D then 1 else 0
/-- The range's upper end: a pointer to 0 for 'direct alone', else none. -/
def MaxOK (B : Nat) (w : World) (D N : Bool) (mx : Option Addr) : Prop :=
  (D = true ∧ N = false ∧ ∃ q, mx = some ⟨q, 0, none⟩ ∧ B ≤ q ∧ q < w.heap.size ∧ w.cell? ⟨q, 0, none⟩ = some (.int .i64 0)) ∨ ((D = false ∨ N = true) ∧ mx = none)
theorem MaxOK.below {B : Nat} {w w' : World} {D N : Bool} {mx : Option Addr} (h : MaxOK B w D N mx) (hb : Below w.heap.size w w') : MaxOK B w' D N mx := by
  rcases h with ⟨h1, h2, q, h3, hB, h4, h5⟩ | h
  · exact .inl ⟨h1, h2, q, h3, hB, by have := hb.size; omega, by rw [hb.cell (p := ⟨q, 0, none⟩) h4]; exact h5⟩
  · exact .inr h

theorem MaxOK.setCell {B : Nat} {w : World} {D N : Bool} {mx : Option Addr} (h : MaxOK B w D N mx) (a : Addr) (ha : a.block < B) (v : Value) : MaxOK B (w.setCell a v) D N mx := by
  rcases h with ⟨h1, h2, q, h3, hB, h4, h5⟩ | h
  · refine .inl ⟨h1, h2, q, h3, hB, by simpa [World.setCell] using h4, ?_⟩
    rw [World.cell?_setCell_other w a ⟨q, 0, none⟩ v (by intro e; rw [e] at ha; simp at ha; omega)]
    exact h5
  · exact .inr h
theorem MaxOK.mono {B B' : Nat} {w : World} {D N : Bool} {mx : Option Addr} (h : MaxOK B w D N mx) (hb : B' ≤ B) : MaxOK B' w D N mx := by
  rcases h with ⟨h1, h2, q, h3, hB, h4⟩ | h
  · exact .inl ⟨h1, h2, q, h3, by omega, h4⟩
  · exact .inr h

theorem want_any (D N : Bool) (e : Int) (w : World) :
    Calls Try.prog 21 #[.bool D, .bool N, .int .i64 e] w fun r w' => r = .returned (.bool (wantB D N e)) ∧ w' = w := by
  unfold wantB
  cases D <;> cases N
  all_goals
    go_enter Try.func21, Try.ntmps21
    go_wp2
    all_goals (go_ret; exact ⟨by simp [*], rfl⟩)

theorem covers_any (D N : Bool) (mx : Option Addr) (e : Int) (he : 0 ≤ e) (B : Nat) (w : World) (hm : MaxOK B w D N mx) :
    Calls Try.prog 20 #[.agg #[.int .i64 (mnOf D N), .pointer mx], .int .i64 e] w fun r w' => r = .returned (.bool (wantB D N e)) ∧ Below w.heap.size w w' := by
  rcases hm with ⟨rfl, rfl, q, rfl, _, hq, hc⟩ | ⟨h, rfl⟩
  · have hc' : ∀ o, (w.alloc o).cell? ⟨q, 0, none⟩ = some (.int .i64 0) := fun o => by rw [((Below.refl _ w).alloc (Nat.le_refl _) o).cell (p := ⟨q, 0, none⟩) hq]; exact hc
    have hw : wantB true false e = decide (e ≤ 0) := by
      rw [Bool.eq_iff_iff]
      simp [wantB]
      omega
    rw [hw]
    simp only [mnOf, Bool.false_and, Bool.false_eq_true, if_false]
    go_enter Try.func20, Try.ntmps20
    go_wp2
    go_ret
    exact ⟨rfl, (Below.refl _ _).alloc (Nat.le_refl _) _⟩
  · have hw : wantB D N e = decide (mnOf D N ≤ e) := by
      rw [Bool.eq_iff_iff]
      cases D <;> cases N <;> simp at h <;> simp [wantB, mnOf] <;> omega
    rw [hw]
    generalize mnOf D N = mn at *
    go_enter Try.func20, Try.ntmps20
    go_wp2
    · go_ret
      exact ⟨by rw [decide_eq_true ‹mn ≤ e›]; rfl, (Below.refl _ _).alloc (Nat.le_refl _) _⟩
    · go_ret
      exact ⟨by rw [decide_eq_false (show ¬ mn ≤ e by omega)]; rfl, (Below.refl _ _).alloc (Nat.le_refl _) _⟩


set_option maxHeartbeats 1000000 in
theorem depths_any (a : Option Addr) (cap : Nat) (l : List Int) (w : World) (hr : Row w a l) (hn : l.length ≤ 65536) :
    Calls Try.prog 34 #[.slice a l.length cap] w fun e w' => ∃ mx, e = .returned (.agg #[.int .i64 (mnOf (hasI 0 l) (hasI 1 l)), .pointer mx]) ∧ MaxOK w.heap.size w' (hasI 0 l) (hasI 1 l) mx ∧ Below w.heap.size w w' := by
  have hb0 : ∀ o, Below w.heap.size w (w.alloc o) := fun o => (Below.refl _ w).alloc (Nat.le_refl _) o
  have hr' : ∀ o, Row (w.alloc o) a l := fun o => hr.below (hb0 o)
  have h0 := fun o => contains_any a cap l 0 (w.alloc o) (hr' o) hn
  have h1 := fun o => contains_any a cap l 1 (w.alloc o) (hr' o) hn
  generalize hasI 0 l = D at *
  generalize hasI 1 l = N at *
  clear hr hr'
  go_enter Try.func34, Try.ntmps34
  go_wp2_with fail
  refine (h0 _).mono ?_
  rintro e w1 ⟨rfl, rfl⟩
  go_wp2_with fail
  refine (h1 _).mono ?_
  rintro e w1 ⟨rfl, rfl⟩
  clear h0 h1
  cases D <;> cases N
  · go_wp2_with fail
    exact bodyPost_ret (v := .agg #[.int .i64 0, .pointer none]) (by simp [results, Try.results34, go_sem]) rfl ⟨_, rfl, .inr ⟨.inl rfl, rfl⟩, hb0 _⟩
  · go_wp2_with fail
    exact bodyPost_ret (v := .agg #[.int .i64 1, .pointer none]) (by simp [results, Try.results34, go_sem]) rfl ⟨_, rfl, .inr ⟨.inl rfl, rfl⟩, hb0 _⟩
  · go_wp2_with fail
    exact bodyPost_ret (v := .agg #[.int .i64 0, .pointer (some ⟨w.heap.size + 1, 0, none⟩)]) (by simp [results, Try.results34, go_sem]) rfl ⟨_, rfl, .inl ⟨rfl, rfl, _, rfl, by omega, by simp, by simp⟩, (hb0 _).alloc (by simp) _⟩
  · go_wp2_with fail
    exact bodyPost_ret (v := .agg #[.int .i64 0, .pointer none]) (by simp [results, Try.results34, go_sem]) rfl ⟨_, rfl, .inr ⟨.inr rfl, rfl⟩, hb0 _⟩

set_option maxHeartbeats 1000000 in
theorem zzdepths_any (a : Option Addr) (cap : Nat) (l : List Int) (w : World) (hr : Row w a l) (hn : l.length ≤ 65536) :
    Calls Try.prog 19 #[.slice a l.length cap] w fun e w' => ∃ mx, e = .returned (.agg #[.int .i64 (mnOf (hasI 0 l) (hasI 1 l)), .pointer mx]) ∧ MaxOK w.heap.size w' (hasI 0 l) (hasI 1 l) mx ∧ Below w.heap.size w w' := by
  have hb0 : ∀ o, Below w.heap.size w (w.alloc o) := fun o => (Below.refl _ w).alloc (Nat.le_refl _) o
  have h0 := fun o => depths_any a cap l (w.alloc o) (hr.below (hb0 o)) hn
  generalize hasI 0 l = D at *
  generalize hasI 1 l = N at *
  go_enter Try.func19, Try.ntmps19
  go_wp2_with fail
  refine (h0 _).mono ?_
  rintro e w1 ⟨mx, rfl, hm, hb⟩
  clear h0
  have c0 : w1.cell? ⟨w.heap.size, 0, none⟩ = some (.int .i64 0) := by rw [hb.cell (p := ⟨w.heap.size, 0, none⟩) (by simp)]; simp
  have c1 : w1.cell? ⟨w.heap.size, 1, none⟩ = some (.pointer none) := by rw [hb.cell (p := ⟨w.heap.size, 1, none⟩) (by simp)]; simp
  have f0 : w1.frozen? ⟨w.heap.size, 0, none⟩ = false := by rw [hb.frozen (p := ⟨w.heap.size, 0, none⟩) (by simp)]; simp
  have f1 : w1.frozen? ⟨w.heap.size, 1, none⟩ = false := by rw [hb.frozen (p := ⟨w.heap.size, 1, none⟩) (by simp)]; simp
  have hm2 := ((hm.setCell ⟨w.heap.size, 0, none⟩ (by simp) (.int .i64 (mnOf D N))).setCell ⟨w.heap.size, 1, none⟩ (by simp) (.pointer mx)).mono (B' := w.heap.size) (by simp)
  have hb2 := (((hb0 (.cells #[.int .i64 0, .pointer none] 33)).trans (hb.mono (by simp))).setCell (p := ⟨w.heap.size, 0, none⟩) (Nat.le_refl _) (.int .i64 (mnOf D N))).setCell (p := ⟨w.heap.size, 1, none⟩) (Nat.le_refl _) (.pointer mx)
  go_wp2_with fail
  exact bodyPost_ret (v := .agg #[.int .i64 (mnOf D N), .pointer mx]) (by simp [results, Try.results19, go_sem, c0, c1]) rfl ⟨_, rfl, hm2, hb2⟩
end Go.Proofs.Qxb6600542a
