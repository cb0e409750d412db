/-
  THE WALKS (3): the law 'FnContextDepthsCoversExactly'.
-/
import Derived.Test.Qxb6600542aDepths
namespace Go.Proofs.Qxb6600542a
open Go.RowKit
set_option linter.unusedVariables false

theorem bytes17_yes (a : Option Addr) (n cap : Nat) (d : Int) (w : World) (hn : n ≤ 1048576) :
    Calls Try.prog 17 #[.slice a n cap, .int .i64 d] w fun e w' => e = .returned (.bool true) ∧ w' = w := by
  go_enter Try.func17, Try.ntmps17
  go_wp2
  go_ret
  exact ⟨rfl, rfl⟩
theorem bytes17_no (a : Option Addr) (n cap : Nat) (d : Int) (w : World) (hn : 1048576 < n) :
    Calls Try.prog 17 #[.slice a n cap, .int .i64 d] w fun e w' => e = .returned (.bool false) ∧ w' = w := by
  go_enter Try.func17, Try.ntmps17
  go_wp2
  go_ret
  exact ⟨rfl, rfl⟩

theorem law_big (a : Option Addr) (n cap : Nat) (d : Int) (w : World) (hn : 1048576 < n) :
    Calls Try.prog 6 #[.slice a n cap, .int .i64 d] w fun e w' => e = .returned (.bool true) ∧ Below w.heap.size w w' := by
  go_enter Try.func6, Try.ntmps6
  go_wp2_with (go_at_call 17; refine (bytes17_no _ _ _ _ _ hn).mono ?_; rintro e w' ⟨rfl, rfl⟩)
  go_ret
  exact ⟨rfl, Below.refl _ _⟩
theorem law_long (a : Option Addr) (n cap : Nat) (d : Int) (w : World) (hn : n ≤ 1048576) (hn2 : 65536 < n) :
    Calls Try.prog 6 #[.slice a n cap, .int .i64 d] w fun e w' => e = .returned (.bool true) ∧ Below w.heap.size w w' := by
  go_enter Try.func6, Try.ntmps6
  go_wp2_with (go_at_call 17; refine (bytes17_yes _ _ _ _ _ hn).mono ?_; rintro e w' ⟨rfl, rfl⟩)
  go_ret
  exact ⟨rfl, Below.refl _ _⟩
theorem law_neg (a : Option Addr) (n cap : Nat) (d : Int) (w : World) (hn : n ≤ 65536) (hd : d < 0) :
    Calls Try.prog 6 #[.slice a n cap, .int .i64 d] w fun e w' => e = .returned (.bool true) ∧ Below w.heap.size w w' := by
  go_enter Try.func6, Try.ntmps6
  go_wp2_with (go_at_call 17; refine (bytes17_yes _ _ _ _ _ (by omega)).mono ?_; rintro e w' ⟨rfl, rfl⟩)
  go_ret
  exact ⟨rfl, Below.refl _ _⟩

set_option maxHeartbeats 1000000 in
theorem law_main (a : Option Addr) (cap : Nat) (l : List Int) (d : Int) (w : World) (hr : Row w a l) (hn : l.length ≤ 65536) (hd : 0 ≤ d) :
    Calls Try.prog 6 #[.slice a l.length cap, .int .i64 d] w fun e w' => e = .returned (.bool true) ∧ Below w.heap.size w w' := by
  go_enter Try.func6, Try.ntmps6
  go_wp2_with (go_at_call 17; refine (bytes17_yes _ _ _ _ _ (by omega)).mono ?_; rintro e w' ⟨rfl, rfl⟩)
  go_wp2_with fail
  refine (convert_any _ _ _ _ hr hn).mono ?_
  rintro e w1 ⟨a1, cap1, rfl, hr1, hb1⟩
  clear hr
  go_wp2_with fail
  refine (zzdepths_any _ _ _ _ hr1 hn).mono ?_
  rintro e w2 ⟨mx, rfl, hm2, hb2⟩
  have hr2 := hr1.below hb2
  have hb := hb1.trans (hb2.mono hb1.size)
  clear hr1 hb1 hb2
  generalize hD : hasI 0 l = D at *
  generalize hN : hasI 1 l = N at *
  have HD : Hid (hasI 0 l = D) := hD
  have HN : Hid (hasI 1 l = N) := hN
  clear hD hN
  go_wp2_with fail
  have b0 : Below w2.heap.size w2 (w2.alloc (.cells #[.int .i64 (mnOf D N), .pointer mx] 33)) := (Below.refl _ w2).alloc (Nat.le_refl _) _
  have hrW := hr2.below b0
  have hmW := hm2.below b0
  have bW := hb.trans (b0.mono hb.size)
  have xW : (w2.alloc (.cells #[.int .i64 (mnOf D N), .pointer mx] 33)).cell? ⟨w2.heap.size, 0, none⟩ = some (.int .i64 (mnOf D N)) := by simp
  have yW : (w2.alloc (.cells #[.int .i64 (mnOf D N), .pointer mx] 33)).cell? ⟨w2.heap.size, 1, none⟩ = some (.pointer mx) := by simp
  have hzW : w2.heap.size < (w2.alloc (.cells #[.int .i64 (mnOf D N), .pointer mx] 33)).heap.size := by simp
  generalize w2.alloc (.cells #[.int .i64 (mnOf D N), .pointer mx] 33) = W at *
  clear hr2 hm2 hb b0
  go_loop [7, 8, 9] (fun x y i => ∃ k : Nat, k ≤ l.length ∧ i = .int .i64 k ∧ x = .bool (hasI 0 (l.take k)) ∧ y = .bool (hasI 1 (l.take k))) (fun _ _ i => l.length - (intOf i).toNat)
  case atStart => exact ⟨0, Nat.zero_le _, rfl, rfl, rfl⟩
  case round =>
    obtain ⟨k, hk, rfl, rfl, rfl⟩ := hrel
    by_cases hlt : k < l.length
    · obtain ⟨b, off, rfl, hbs, hc⟩ : ∃ b off, a1 = some (⟨b, off, none⟩ : Addr) ∧ b < W.heap.size ∧ ∀ i, i < l.length → W.cell? ⟨b, off + i, none⟩ = some (.int .i64 (l.getD i 0)) := by
        rcases hrW with h | h
        · subst h; simp at hlt
        · exact h
      have c1 : W.cell? ⟨b, off + k, none⟩ = some (.int .i64 l[k]) := by have := hc k hlt; simpa [hlt] using this
      have H0 : Hid (hasI 0 (l.take (k + 1)) = (hasI 0 (l.take k) || 0 == l[k])) := hasI_take 0 l k hlt
      have H1 : Hid (hasI 1 (l.take (k + 1)) = (hasI 1 (l.take k) || 1 == l[k])) := hasI_take 1 l k hlt
      generalize l[k] = z at *
      clear hc hrW
      generalize hasI 0 (l.take k) = p at *
      generalize hasI 1 (l.take k) = q at *
      by_cases h0 : z = 0
      · subst h0
        have H0' : Hid (hasI 0 (l.take (k + 1)) = true) := by show _ = _; rw [H0.out]; simp
        have H1' : Hid (hasI 1 (l.take (k + 1)) = q) := by show _ = _; rw [H1.out]; simp
        clear H0 H1
        go_wp2_with fail
        go_round
        case rel => exact ⟨k + 1, by omega, by go_num, by rw [H0'.out], by rw [H1'.out]⟩
        case measure => simp [intOf]; omega
      · by_cases h1 : z = 1
        · subst h1
          have H0' : Hid (hasI 0 (l.take (k + 1)) = p) := by show _ = _; rw [H0.out]; simp
          have H1' : Hid (hasI 1 (l.take (k + 1)) = true) := by show _ = _; rw [H1.out]; simp
          clear H0 H1
          go_wp2_with fail
          go_round
          case rel => exact ⟨k + 1, by omega, by go_num, by rw [H0'.out], by rw [H1'.out]⟩
          case measure => simp [intOf]; omega
        · have e0 : (z == 0) = false := by simpa using h0
          have e1 : (z == 1) = false := by simpa using h1
          have H0' : Hid (hasI 0 (l.take (k + 1)) = p) := by show _ = _; rw [H0.out, beq_eq_false_iff_ne.2 (Ne.symm h0), Bool.or_false]
          have H1' : Hid (hasI 1 (l.take (k + 1)) = q) := by show _ = _; rw [H1.out, beq_eq_false_iff_ne.2 (Ne.symm h1), Bool.or_false]
          clear H0 H1 h0 h1
          go_wp2_with fail
          go_round
          case rel => exact ⟨k + 1, by omega, by go_num, by rw [H0'.out], by rw [H1'.out]⟩
          case measure => simp [intOf]; omega
    · obtain rfl : k = l.length := by omega
      rw [List.take_length, HD.out, HN.out]
      clear HD HN hrW
      go_wp2_with fail
      refine (covers_any D N mx 0 (by omega) w1.heap.size _ hmW).mono ?_
      rintro e w3 ⟨rfl, hbw3⟩
      have hmw3 := hmW.below hbw3
      have xw3 : w3.cell? ⟨w2.heap.size, 0, none⟩ = some (.int .i64 (mnOf D N)) := by rw [hbw3.cell (p := ⟨w2.heap.size, 0, none⟩) hzW]; exact xW
      have yw3 : w3.cell? ⟨w2.heap.size, 1, none⟩ = some (.pointer mx) := by rw [hbw3.cell (p := ⟨w2.heap.size, 1, none⟩) hzW]; exact yW
      have hzw3 : w2.heap.size < w3.heap.size := by have := hbw3.size; omega
      have bw3 := bW.trans (hbw3.mono bW.size)
      clear hbw3 hmW xW yW bW hzW
      go_wp2_with fail
      refine (want_any D N 0 _).mono ?_
      rintro e w' ⟨rfl, rfl⟩
      go_wp2_with fail
      refine (covers_any D N mx 1 (by omega) w1.heap.size _ hmw3).mono ?_
      rintro e w4 ⟨rfl, hbw4⟩
      have hmw4 := hmw3.below hbw4
      have xw4 : w4.cell? ⟨w2.heap.size, 0, none⟩ = some (.int .i64 (mnOf D N)) := by rw [hbw4.cell (p := ⟨w2.heap.size, 0, none⟩) hzw3]; exact xw3
      have yw4 : w4.cell? ⟨w2.heap.size, 1, none⟩ = some (.pointer mx) := by rw [hbw4.cell (p := ⟨w2.heap.size, 1, none⟩) hzw3]; exact yw3
      have hzw4 : w2.heap.size < w4.heap.size := by have := hbw4.size; omega
      have bw4 := bw3.trans (hbw4.mono bw3.size)
      clear hbw4 hmw3 xw3 yw3 bw3 hzw3
      go_wp2_with fail
      refine (want_any D N 1 _).mono ?_
      rintro e w' ⟨rfl, rfl⟩
      go_wp2_with fail
      refine (covers_any D N mx d hd w1.heap.size _ hmw4).mono ?_
      rintro e w5 ⟨rfl, hbw5⟩
      have hmw5 := hmw4.below hbw5
      have xw5 : w5.cell? ⟨w2.heap.size, 0, none⟩ = some (.int .i64 (mnOf D N)) := by rw [hbw5.cell (p := ⟨w2.heap.size, 0, none⟩) hzw4]; exact xw4
      have yw5 : w5.cell? ⟨w2.heap.size, 1, none⟩ = some (.pointer mx) := by rw [hbw5.cell (p := ⟨w2.heap.size, 1, none⟩) hzw4]; exact yw4
      have hzw5 : w2.heap.size < w5.heap.size := by have := hbw5.size; omega
      have bw5 := bw4.trans (hbw5.mono bw4.size)
      clear hbw5 hmw4 xw4 yw4 bw4 hzw4
      go_wp2_with fail
      refine (want_any D N d _).mono ?_
      rintro e w' ⟨rfl, rfl⟩
      go_wp2_with fail
      go_ret
      exact ⟨by simp, bw5⟩
end Go.Proofs.Qxb6600542a
