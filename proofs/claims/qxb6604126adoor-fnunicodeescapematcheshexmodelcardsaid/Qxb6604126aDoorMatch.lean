/-
  THE WALKS (6): the law 'FnUnicodeEscapeMatchesHexModel'.
-/
import Derived.Test.Qxb6604126aDoorModel
namespace Go.Proofs.Qxb6604126aDoor
open Go.RowKit
set_option linter.unusedVariables false

/-- Four digits, or not. -/
theorem hexP_four (c0 c1 c2 c3 : UInt8) :
    (∃ d0 d1 d2 d3, Pl.hexV c0 = some d0 ∧ Pl.hexV c1 = some d1 ∧ Pl.hexV c2 = some d2 ∧ Pl.hexV c3 = some d3 ∧ Pl.hexP 0 [c0, c1, c2, c3] = some (((d0 * 16 + d1) * 16 + d2) * 16 + d3)) ∨
    (((Pl.hexV c0).isSome && (Pl.hexV c1).isSome && (Pl.hexV c2).isSome && (Pl.hexV c3).isSome) = false ∧ Pl.hexP 0 [c0, c1, c2, c3] = none) := by
  cases h0 : Pl.hexV c0 with
  | none => exact .inr ⟨by simp, Pl.hexP_miss _ _ _ h0⟩
  | some d0 =>
    cases h1 : Pl.hexV c1 with
    | none => exact .inr ⟨by simp, by rw [Pl.hexP_hit _ _ _ _ h0, Pl.hexP_miss _ _ _ h1]⟩
    | some d1 =>
      cases h2 : Pl.hexV c2 with
      | none => exact .inr ⟨by simp, by rw [Pl.hexP_hit _ _ _ _ h0, Pl.hexP_hit _ _ _ _ h1, Pl.hexP_miss _ _ _ h2]⟩
      | some d2 =>
        cases h3 : Pl.hexV c3 with
        | none => exact .inr ⟨by simp, by rw [Pl.hexP_hit _ _ _ _ h0, Pl.hexP_hit _ _ _ _ h1, Pl.hexP_hit _ _ _ _ h2, Pl.hexP_miss _ _ _ h3]⟩
        | some d3 =>
          refine .inl ⟨d0, d1, d2, d3, rfl, rfl, rfl, rfl, ?_⟩
          rw [Pl.hexP_hit _ _ _ _ h0, Pl.hexP_hit _ _ _ _ h1, Pl.hexP_hit _ _ _ _ h2, Pl.hexP_hit _ _ _ _ h3, Pl.hexP_nil]
          congr 1
          omega

theorem quiet_below {f : Nat} {args : Array Value} {w : World} {x : Int} {r : Bool} (h : Calls Tryd.prog f args w fun e w' => e = .returned (.tuple #[.int .i32 x, .bool r]) ∧ w' = w) :
    Calls Tryd.prog f args w fun e w' => e = .returned (.tuple #[.int .i32 x, .bool r]) ∧ Below w.heap.size w w' :=
  h.mono fun e w' ⟨he, hw⟩ => ⟨he, by rw [hw]; exact Below.refl _ _⟩

/-- Both roads come to one answer. -/
theorem pair (a : Option Addr) (cap : Nat) (l : List UInt8) (ev : Value) (w : World) (hr : Row w a l) (hcap : l.length ≤ cap) (hv : w.cell? ⟨0, 0, none⟩ = some ev) (hev : ev = .nilIface ∨ ∃ te pe, ev = .iface te pe) :
    ∃ (x : Int) (r : Bool), (Calls Tryd.prog 7 #[.slice a l.length cap] w fun e w' => e = .returned (.tuple #[.int .i32 x, .bool r]) ∧ Below w.heap.size w w') ∧
      ∀ w2, Row w2 a l → Calls Tryd.prog 8 #[.slice a l.length cap] w2 fun e w' => e = .returned (.tuple #[.int .i32 x, .bool r]) ∧ w' = w2 := by
  by_cases hn : l.length < 6
  · exact ⟨0, false, zz_of _ _ _ _ _ _ (quiet_below (esc_short a l.length cap w hn)), fun w2 _ => model_short a l.length cap w2 hn⟩
  · obtain ⟨b, off, rfl, hbs, hc⟩ : ∃ b off, a = some (⟨b, off, none⟩ : Addr) ∧ b < w.heap.size ∧ ∀ i, i < l.length → w.cell? ⟨b, off + i, none⟩ = some (.int .u8 ((l.getD i 0).toNat : Int)) := by
      rcases hr with h | h
      · subst h; simp at hn
      · exact h
    have hcell : ∀ w2, Row w2 (some ⟨b, off, none⟩) l → ∀ i, i < l.length → w2.cell? ⟨b, off + i, none⟩ = some (.int .u8 ((l.getD i 0).toNat : Int)) := by
      intro w2 h
      rcases h with h | ⟨b', off', h, _, hc'⟩
      · subst h; simp at hn
      · obtain ⟨rfl, rfl⟩ : b = b' ∧ off = off' := by simpa using h
        exact hc'
    clear hr
    have h6 : 6 ≤ l.length := by omega
    by_cases e0 : l.getD 0 0 = 92
    · have t0 : ∀ w2, Row w2 (some ⟨b, off, none⟩) l → w2.cell? ⟨b, off, none⟩ = some (.int .u8 92) := fun w2 h => by
        have := hcell w2 h 0 (by omega)
        rw [e0] at this
        simpa using this
      have s0 : w.cell? ⟨b, off, none⟩ = some (.int .u8 92) := by
        have := hc 0 (by omega)
        rw [e0] at this
        simpa using this
      by_cases e1 : l.getD 1 0 = 117
      · have t1 : ∀ w2, Row w2 (some ⟨b, off, none⟩) l → w2.cell? ⟨b, off + 1, none⟩ = some (.int .u8 117) := fun w2 h => by
          have := hcell w2 h 1 (by omega)
          rw [e1] at this
          simpa using this
        have s1 : w.cell? ⟨b, off + 1, none⟩ = some (.int .u8 117) := by
          have := hc 1 (by omega)
          rw [e1] at this
          simpa using this
        have s2 : ∀ j (hj : j < [l.getD 2 0, l.getD 3 0, l.getD 4 0, l.getD 5 0].length), w.cell? ⟨b, off + 2 + j, none⟩ = some (.int .u8 (([l.getD 2 0, l.getD 3 0, l.getD 4 0, l.getD 5 0][j]'hj).toNat : Int)) := by
          intro j hj
          match j, hj with
          | 0, _ => exact hc 2 (by omega)
          | 1, _ => exact hc 3 (by omega)
          | 2, _ => exact hc 4 (by omega)
          | 3, _ => exact hc 5 (by omega)
          | j + 4, hj => simp at hj; omega
        obtain ⟨x0, b0, k0, f0, g0, g0', m0⟩ := hd_any (l.getD 2 0)
        obtain ⟨x1, b1, k1, f1, g1, g1', m1⟩ := hd_any (l.getD 3 0)
        obtain ⟨x2, b2, k2, f2, g2, g2', m2⟩ := hd_any (l.getD 4 0)
        obtain ⟨x3, b3, k3, f3, g3, g3', m3⟩ := hd_any (l.getD 5 0)
        have hM := fun w2 (h : Row w2 (some ⟨b, off, none⟩) l) => model_all b off l.length cap x0 x1 x2 x3 _ _ _ _ b0 b1 b2 b3 w2 h6 (t0 w2 h) (t1 w2 h)
          (hcell w2 h 2 (by omega)) (hcell w2 h 3 (by omega)) (hcell w2 h 4 (by omega)) (hcell w2 h 5 (by omega)) k0 k1 k2 k3 ⟨g0, g0'⟩ ⟨g1, g1'⟩ ⟨g2, g2'⟩ ⟨g3, g3'⟩
        rcases hexP_four (l.getD 2 0) (l.getD 3 0) (l.getD 4 0) (l.getD 5 0) with ⟨d0, d1, d2, d3, p0, p1, p2, p3, hp⟩ | ⟨hb, hp⟩
        · have q0 := Pl.hexV_le p0
          have q1 := Pl.hexV_le p1
          have q2 := Pl.hexV_le p2
          have q3 := Pl.hexV_le p3
          rw [p0] at f0; rw [p1] at f1; rw [p2] at f2; rw [p3] at f3
          have r0 := m0 _ p0
          have r1 := m1 _ p1
          have r2 := m2 _ p2
          have r3 := m3 _ p3
          have hx : four x0 x1 x2 x3 = (((((d0 * 16 + d1) * 16 + d2) * 16 + d3 : Nat)) : Int) := by
            unfold four
            omega
          rw [f0, f1, f2, f3, hx] at hM
          exact ⟨_, true, zz_of _ _ _ _ _ _ (esc_ok b off l.length cap _ _ w h6 hcap s0 s1 rfl s2 hp (by omega)), hM⟩
        · rw [← f0, ← f1, ← f2, ← f3] at hb
          rw [hb] at hM
          exact ⟨0, false, zz_of _ _ _ _ _ _ (esc_bad b off l.length cap _ ev w h6 hcap s0 s1 rfl s2 hp hv hev), hM⟩
      · have hy : (((l.getD 1 0).toNat : Int) != 117) = true := by
          rw [bne_iff_ne]
          intro h
          exact e1 (UInt8.toNat_inj.1 (by rw [show (117 : UInt8).toNat = 117 from rfl]; omega))
        exact ⟨0, false, zz_of _ _ _ _ _ _ (quiet_below (esc_head1 b off l.length cap _ w h6 s0 (hc 1 (by omega)) hy)), fun w2 h => model_head1 b off l.length cap _ w2 h6 (t0 w2 h) (hcell w2 h 1 (by omega)) hy⟩
    · have hx : (((l.getD 0 0).toNat : Int) != 92) = true := by
        rw [bne_iff_ne]
        intro h
        exact e0 (UInt8.toNat_inj.1 (by rw [show (92 : UInt8).toNat = 92 from rfl]; omega))
      exact ⟨0, false, zz_of _ _ _ _ _ _ (quiet_below (esc_head0 b off l.length cap _ w h6 (hc 0 (by omega)) hx)), fun w2 h => model_head0 b off l.length cap _ w2 h6 (hcell w2 h 0 (by omega)) hx⟩

theorem bytes5_yes (a : Option Addr) (n cap : Nat) (w : World) (hn : n ≤ 1048576) :
    Calls Tryd.prog 5 #[.slice a n cap] w fun e w' => e = .returned (.bool true) ∧ w' = w := by
  go_enter Tryd.func5, Tryd.ntmps5
  go_wp2
  go_ret
  exact ⟨rfl, rfl⟩
theorem bytes5_no (a : Option Addr) (n cap : Nat) (w : World) (hn : 1048576 < n) :
    Calls Tryd.prog 5 #[.slice a n cap] w fun e w' => e = .returned (.bool false) ∧ w' = w := by
  go_enter Tryd.func5, Tryd.ntmps5
  go_wp2
  go_ret
  exact ⟨rfl, rfl⟩
theorem match_big (a : Option Addr) (n cap : Nat) (w : World) (hn : 1048576 < n) :
    Calls Tryd.prog 3 #[.slice a n cap] w fun e w' => e = .returned (.bool true) ∧ Below w.heap.size w w' := by
  go_enter Tryd.func3, Tryd.ntmps3
  go_wp2_with (go_at_call 5; refine (bytes5_no _ _ _ _ hn).mono ?_; rintro e w' ⟨rfl, rfl⟩)
  go_ret
  exact ⟨rfl, Below.refl _ _⟩

set_option maxHeartbeats 1000000 in
theorem match_main (a : Option Addr) (cap : Nat) (l : List UInt8) (ev : Value) (w : World) (hr : Row w a l) (hn : l.length ≤ 1048576) (hv : w.cell? ⟨0, 0, none⟩ = some ev) (hev : ev = .nilIface ∨ ∃ te pe, ev = .iface te pe) :
    Calls Tryd.prog 3 #[.slice a l.length cap] w fun e w' => e = .returned (.bool true) ∧ Below w.heap.size w w' := by
  have h0 : 0 < w.heap.size := by
    rcases Nat.eq_zero_or_pos w.heap.size with h' | h'
    · simp [World.cell?, Array.getElem?_eq_none (show w.heap.size ≤ 0 by omega)] at hv
    · exact h'
  go_enter Tryd.func3, Tryd.ntmps3
  go_wp2_with (go_at_call 5; refine (bytes5_yes _ _ _ _ hn).mono ?_; rintro e w' ⟨rfl, rfl⟩)
  go_wp2_with fail
  refine (clone_any _ _ _ _ hr hn).mono ?_
  rintro e w1 ⟨a1, cap1, rfl, hcap1, hr1, hb1⟩
  have hv1 : w1.cell? ⟨0, 0, none⟩ = some ev := by rw [hb1.cell (p := ⟨0, 0, none⟩) h0]; exact hv
  obtain ⟨x, r, hZ, hM⟩ := pair a1 cap1 l ev w1 hr1 hcap1 hv1 hev
  clear hr hv hev hv1
  go_wp2_with fail
  refine hZ.mono ?_
  rintro e w2 ⟨rfl, hb2⟩
  have h8 := hM w2 (hr1.below hb2)
  clear hZ hM hr1
  go_wp2_with fail
  refine h8.mono ?_
  rintro e w3 ⟨rfl, rfl⟩
  clear h8
  have hb := hb1.trans (hb2.mono hb1.size)
  go_wp2_with fail
  go_ret
  exact ⟨by simp, hb⟩
end Go.Proofs.Qxb6604126aDoor
