/-
  THE WALKS (5): hexDigitValue, escapeModel.
-/
import Derived.Test.Qxb6604126aDoorParts
import Derived.Laws.BitsAllLaws
namespace Go.Proofs.Qxb6604126aDoor
open Go.RowKit
set_option linter.unusedVariables false

theorem hd_ok (c : UInt8) (d : Nat) (w : World) (h : Pl.hexV c = some d) :
    Calls Tryd.prog 12 #[.int .u8 (c.toNat : Int)] w fun e w' => e = .returned (.tuple #[.int .i32 (d : Int), .bool true]) ∧ w' = w := by
  have hlt := c.toNat_lt
  unfold Pl.hexV at h
  generalize c.toNat = n at *
  by_cases h1 : 48 ≤ n ∧ n ≤ 57
  · rw [if_pos h1] at h
    obtain ⟨h1, h2⟩ := h1
    obtain ⟨d, hd, rfl⟩ : ∃ m : Nat, ((n : Int) - 48 = (m : Int)) ∧ m = d := ⟨n - 48, by omega, by simpa using h⟩
    have HD : Hid ((n : Int) - 48 = (d : Int)) := hd
    clear hd h
    go_enter Tryd.func12, Tryd.ntmps12
    go_wp2
    go_ret2
    exact ⟨by rw [← HD.out]; rfl, rfl⟩
  · rw [if_neg h1] at h
    by_cases h2 : 97 ≤ n ∧ n ≤ 102
    · rw [if_pos h2] at h
      obtain ⟨h2, h3⟩ := h2
      obtain ⟨d, hd, rfl⟩ : ∃ m : Nat, ((n : Int) - 97 + 10 = (m : Int)) ∧ m = d := ⟨n - 87, by omega, by simpa using h⟩
      have HD : Hid ((n : Int) - 97 + 10 = (d : Int)) := hd
      clear hd h h1
      go_enter Tryd.func12, Tryd.ntmps12
      go_wp2
      go_ret2
      exact ⟨by rw [← HD.out]; rfl, rfl⟩
    · rw [if_neg h2] at h
      by_cases h3 : 65 ≤ n ∧ n ≤ 70
      · rw [if_pos h3] at h
        obtain ⟨h3, h4⟩ := h3
        obtain ⟨d, hd, rfl⟩ : ∃ m : Nat, ((n : Int) - 65 + 10 = (m : Int)) ∧ m = d := ⟨n - 55, by omega, by simpa using h⟩
        have HD : Hid ((n : Int) - 65 + 10 = (d : Int)) := hd
        clear hd h h1 h2
        go_enter Tryd.func12, Tryd.ntmps12
        go_wp2
        go_ret2
        exact ⟨by rw [← HD.out]; rfl, rfl⟩
      · rw [if_neg h3] at h
        cases h

theorem hd_no (c : UInt8) (w : World) (h : Pl.hexV c = none) :
    Calls Tryd.prog 12 #[.int .u8 (c.toNat : Int)] w fun e w' => e = .returned (.tuple #[.int .i32 0, .bool false]) ∧ w' = w := by
  have hlt := c.toNat_lt
  unfold Pl.hexV at h
  generalize c.toNat = n at *
  have h1 : ¬ (48 ≤ n ∧ n ≤ 57) := fun k => by rw [if_pos k] at h; cases h
  rw [if_neg h1] at h
  have h2 : ¬ (97 ≤ n ∧ n ≤ 102) := fun k => by rw [if_pos k] at h; cases h
  rw [if_neg h2] at h
  have h3 : ¬ (65 ≤ n ∧ n ≤ 70) := fun k => by rw [if_pos k] at h; cases h
  clear h
  rcases (show n < 48 ∨ (57 < n ∧ n < 65) ∨ (70 < n ∧ n < 97) ∨ 102 < n by omega) with g | ⟨g, g'⟩ | ⟨g, g'⟩ | g
  all_goals
    clear h1 h2 h3
    go_enter Tryd.func12, Tryd.ntmps12
    go_wp2
    go_ret2
    exact ⟨rfl, rfl⟩

/-- hexDigitValue, either way. -/
theorem hd_any (c : UInt8) : ∃ (x : Int) (b : Bool), (∀ w, Calls Tryd.prog 12 #[.int .u8 (c.toNat : Int)] w fun e w' => e = .returned (.tuple #[.int .i32 x, .bool b]) ∧ w' = w) ∧ (b = (Pl.hexV c).isSome) ∧ 0 ≤ x ∧ x ≤ 15 ∧ ∀ d, Pl.hexV c = some d → x = (d : Int) := by
  cases h : Pl.hexV c with
  | none => exact ⟨0, false, fun w => hd_no c w h, rfl, by omega, by omega, fun d hd => by cases hd⟩
  | some d => exact ⟨d, true, fun w => hd_ok c d w h, rfl, by omega, by have := Pl.hexV_le h; omega, fun e he => by cases he; rfl⟩

theorem i32_or_nat (a b : Nat) (ha : a < 65536) (hb : b < 65536) : bits .or .i32 (a : Int) (b : Int) = ((a ||| b : Nat) : Int) := by
  have hlt : a ||| b < 2 ^ 16 := Nat.or_lt_two_pow (by omega) (by omega)
  have e1 : (BitVec.ofInt 32 (a : Int)).toNat = a := ofInt_u32 a (by omega)
  have e2 : (BitVec.ofInt 32 (b : Int)).toNat = b := ofInt_u32 b (by omega)
  show IntKind.i32.wrap ((BitVec.ofInt 32 (a : Int) ||| BitVec.ofInt 32 (b : Int)).toNat : Int) = _
  rw [BitVec.toNat_or, e1, e2]
  generalize a ||| b = m at *
  simp only [IntKind.wrap, IntKind.bits, IntKind.signed]
  have hm : m < 65536 := hlt
  simp
  omega

/-- The four digits put together. -/
def four (x0 x1 x2 x3 : Int) : Int := ((x0 * 16 + x1) * 16 + x2) * 16 + x3
theorem or4 (x0 x1 x2 x3 : Int) (g0 : 0 ≤ x0 ∧ x0 ≤ 15) (g1 : 0 ≤ x1 ∧ x1 ≤ 15) (g2 : 0 ≤ x2 ∧ x2 ≤ 15) (g3 : 0 ≤ x3 ∧ x3 ≤ 15) :
    bits .or .i32 (bits .or .i32 (x0 * 4096 + x1 * 256) (x2 * 16)) x3 = four x0 x1 x2 x3 := by
  obtain ⟨a, rfl⟩ := Int.eq_ofNat_of_zero_le g0.1
  obtain ⟨b, rfl⟩ := Int.eq_ofNat_of_zero_le g1.1
  obtain ⟨c, rfl⟩ := Int.eq_ofNat_of_zero_le g2.1
  obtain ⟨d, rfl⟩ := Int.eq_ofNat_of_zero_le g3.1
  have e1 : ((a : Int) * 4096 + (b : Int) * 256) = ((a * 4096 + b * 256 : Nat) : Int) := by omega
  have e2 : ((c : Int) * 16) = ((c * 16 : Nat) : Int) := by omega
  rw [e1, e2, i32_or_nat _ _ (by omega) (by omega), nat_join 8 _ _ (by omega) (by omega), i32_or_nat _ _ (by omega) (by omega), nat_join 4 _ _ (by omega) (by omega)]
  unfold four
  omega

theorem model_short (a : Option Addr) (n cap : Nat) (w : World) (hn : n < 6) :
    Calls Tryd.prog 8 #[.slice a n cap] w fun e w' => e = .returned (.tuple #[.int .i32 0, .bool false]) ∧ w' = w := by
  go_enter Tryd.func8, Tryd.ntmps8
  go_wp2
  go_ret2
  exact ⟨rfl, rfl⟩
theorem model_head0 (b off n cap : Nat) (x : Int) (w : World) (hn : 6 ≤ n) (h0 : w.cell? ⟨b, off, none⟩ = some (.int .u8 x)) (hx : (x != 92) = true) :
    Calls Tryd.prog 8 #[.slice (some ⟨b, off, none⟩) n cap] w fun e w' => e = .returned (.tuple #[.int .i32 0, .bool false]) ∧ w' = w := by
  go_enter Tryd.func8, Tryd.ntmps8
  go_wp2
  go_ret2
  exact ⟨rfl, rfl⟩
theorem model_head1 (b off n cap : Nat) (y : Int) (w : World) (hn : 6 ≤ n) (h0 : w.cell? ⟨b, off, none⟩ = some (.int .u8 92)) (h1 : w.cell? ⟨b, off + 1, none⟩ = some (.int .u8 y)) (hy : (y != 117) = true) :
    Calls Tryd.prog 8 #[.slice (some ⟨b, off, none⟩) n cap] w fun e w' => e = .returned (.tuple #[.int .i32 0, .bool false]) ∧ w' = w := by
  go_enter Tryd.func8, Tryd.ntmps8
  go_wp2
  go_ret2
  exact ⟨rfl, rfl⟩

set_option maxHeartbeats 2000000 in
theorem model_all (b off n cap : Nat) (x0 x1 x2 x3 : Int) (z0 z1 z2 z3 : Int) (b0 b1 b2 b3 : Bool) (w : World) (hn : 6 ≤ n) (h0 : w.cell? ⟨b, off, none⟩ = some (.int .u8 92)) (h1 : w.cell? ⟨b, off + 1, none⟩ = some (.int .u8 117))
    (c2 : w.cell? ⟨b, off + 2, none⟩ = some (.int .u8 z0)) (c3 : w.cell? ⟨b, off + 3, none⟩ = some (.int .u8 z1)) (c4 : w.cell? ⟨b, off + 4, none⟩ = some (.int .u8 z2)) (c5 : w.cell? ⟨b, off + 5, none⟩ = some (.int .u8 z3))
    (k0 : ∀ w, Calls Tryd.prog 12 #[.int .u8 z0] w fun e w' => e = .returned (.tuple #[.int .i32 x0, .bool b0]) ∧ w' = w)
    (k1 : ∀ w, Calls Tryd.prog 12 #[.int .u8 z1] w fun e w' => e = .returned (.tuple #[.int .i32 x1, .bool b1]) ∧ w' = w)
    (k2 : ∀ w, Calls Tryd.prog 12 #[.int .u8 z2] w fun e w' => e = .returned (.tuple #[.int .i32 x2, .bool b2]) ∧ w' = w)
    (k3 : ∀ w, Calls Tryd.prog 12 #[.int .u8 z3] w fun e w' => e = .returned (.tuple #[.int .i32 x3, .bool b3]) ∧ w' = w)
    (g0 : 0 ≤ x0 ∧ x0 ≤ 15) (g1 : 0 ≤ x1 ∧ x1 ≤ 15) (g2 : 0 ≤ x2 ∧ x2 ≤ 15) (g3 : 0 ≤ x3 ∧ x3 ≤ 15) :
    Calls Tryd.prog 8 #[.slice (some ⟨b, off, none⟩) n cap] w fun e w' => e = .returned (.tuple #[.int .i32 (bif b0 && b1 && b2 && b3 then four x0 x1 x2 x3 else 0), .bool (b0 && b1 && b2 && b3)]) ∧ w' = w := by
  have HV : Hid (bits .or .i32 (bits .or .i32 (x0 * 4096 + x1 * 256) (x2 * 16)) x3 = four x0 x1 x2 x3) := or4 x0 x1 x2 x3 g0 g1 g2 g3
  obtain ⟨g0, g0'⟩ := g0
  obtain ⟨g1, g1'⟩ := g1
  obtain ⟨g2, g2'⟩ := g2
  obtain ⟨g3, g3'⟩ := g3
  go_enter Tryd.func8, Tryd.ntmps8
  go_wp2_with fail
  refine (k0 _).mono ?_
  rintro e w1 ⟨rfl, rfl⟩
  go_wp2_with fail
  refine (k1 _).mono ?_
  rintro e w1 ⟨rfl, rfl⟩
  go_wp2_with fail
  refine (k2 _).mono ?_
  rintro e w1 ⟨rfl, rfl⟩
  go_wp2_with fail
  refine (k3 _).mono ?_
  rintro e w1 ⟨rfl, rfl⟩
  clear k0 k1 k2 k3 c2 c3 c4 c5 h0 h1
  cases b0 <;> cases b1 <;> cases b2 <;> cases b3
  case true.true.true.true =>
    go_wp2_with fail
    go_ret2
    exact ⟨congrArg (fun v => Ending.returned (.tuple #[.int .i32 v, .bool true])) HV.out, rfl⟩
  all_goals
    go_wp2_with fail
    go_ret2
    exact ⟨rfl, rfl⟩
end Go.Proofs.Qxb6604126aDoor
