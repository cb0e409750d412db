/-
  THE WALKS (3): the law 'FnTextDropsOnlyWhiteSpace' out of zzTextOf's contract.
-/
import Derived.Test.Qxb6002697aWalksA
namespace Go.Proofs.Qxb6002697a
open Go.RowKit
set_option linter.unusedVariables false

/-- zzTextOf's contract. -/
def TextOfSaid : Prop := ∀ (k : Int) (a : Option Addr) (cap : Nat) (l : List UInt8) (w : World), (k == 4) = false → Row w a l → l.length ≤ 1048576 →
    Calls Try.prog 22 #[.int .u8 k, .slice a l.length cap] w fun e w' => ∃ s : ByteArray, e = .returned (.string s) ∧ s.data.toList = Pl.keep false false l ∧ Below w.heap.size w w'

theorem bytes23_yes (k : Int) (a : Option Addr) (n cap : Nat) (w : World) (hn : n ≤ 1048576) :
    Calls Try.prog 23 #[.int .u8 k, .slice a n cap] w fun e w' => e = .returned (.bool true) ∧ w' = w := by
  go_enter Try.func23, Try.ntmps23
  go_wp2
  go_ret
  exact ⟨rfl, rfl⟩
theorem bytes23_no (k : Int) (a : Option Addr) (n cap : Nat) (w : World) (hn : 1048576 < n) :
    Calls Try.prog 23 #[.int .u8 k, .slice a n cap] w fun e w' => e = .returned (.bool false) ∧ w' = w := by
  go_enter Try.func23, Try.ntmps23
  go_wp2
  go_ret
  exact ⟨rfl, rfl⟩

theorem drops_big (k : Int) (a : Option Addr) (n cap : Nat) (w : World) (hn : 1048576 < n) :
    Calls Try.prog 9 #[.int .u8 k, .slice a n cap] w fun e w' => e = .returned (.bool true) ∧ Below w.heap.size w w' := by
  go_enter Try.func9, Try.ntmps9
  go_wp2_with (go_at_call 23; refine (bytes23_no _ _ _ _ _ hn).mono ?_; rintro e w' ⟨rfl, rfl⟩)
  go_ret
  exact ⟨rfl, Below.refl _ _⟩
theorem drops_string (k : Int) (a : Option Addr) (n cap : Nat) (w : World) (hn : n ≤ 1048576) (hk : (k == 4) = true) :
    Calls Try.prog 9 #[.int .u8 k, .slice a n cap] w fun e w' => e = .returned (.bool true) ∧ Below w.heap.size w w' := by
  go_enter Try.func9, Try.ntmps9
  go_wp2_with (go_at_call 23; refine (bytes23_yes _ _ _ _ _ hn).mono ?_; rintro e w' ⟨rfl, rfl⟩)
  go_ret
  exact ⟨rfl, Below.refl _ _⟩


theorem zzIsWS_yes (c : UInt8) (w : World) (h : Pl.isWS c = true) :
    Calls Try.prog 24 #[.int .u8 (c.toNat : Int)] w fun e w' => e = .returned (.bool true) ∧ w' = w := by
  have := zzIsWS_any c w
  rwa [h] at this
theorem zzIsWS_no (c : UInt8) (w : World) (h : Pl.isWS c = false) :
    Calls Try.prog 24 #[.int .u8 (c.toNat : Int)] w fun e w' => e = .returned (.bool false) ∧ w' = w := by
  have := zzIsWS_any c w
  rwa [h] at this

theorem size_of (s : ByteArray) : s.data.toList.length = s.size := rfl
theorem drop_at (s : ByteArray) (t : Nat) (c : UInt8) (r : List UInt8) (h : s.data.toList.drop t = c :: r) : ∃ ht : t < s.size, s[t] = c ∧ s.data.toList.drop (t + 1) = r := by
  have ht : t < s.data.toList.length := by
    rcases Nat.lt_or_ge t s.data.toList.length with h' | h'
    · exact h'
    · rw [List.drop_of_length_le h'] at h; cases h
  rw [List.drop_eq_getElem_cons ht] at h
  obtain ⟨h1, h2⟩ := List.cons.inj h
  exact ⟨by rw [size_of] at ht; exact ht, h1, h2⟩

set_option maxHeartbeats 1000000 in
theorem drops_main (hT : TextOfSaid) (k : Int) (a : Option Addr) (cap : Nat) (l : List UInt8) (w : World) (hr : Row w a l) (hn : l.length ≤ 1048576) (hk : (k == 4) = false) :
    Calls Try.prog 9 #[.int .u8 k, .slice a l.length cap] w fun e w' => e = .returned (.bool true) ∧ Below w.heap.size w w' := by
  go_enter Try.func9, Try.ntmps9
  go_wp2_with (go_at_call 23; refine (bytes23_yes _ _ _ _ _ hn).mono ?_; rintro e w' ⟨rfl, rfl⟩)
  go_wp2_with fail
  refine (clone_any _ _ _ _ hr hn).mono ?_
  rintro e w1 ⟨a1, cap1, rfl, hr1, hb1⟩
  go_wp2_with fail
  refine (hT _ _ _ _ _ hk hr1 hn).mono ?_
  rintro e w2 ⟨s, rfl, hs, hb2⟩
  have hr2 := hr1.below hb2
  have hb := hb1.trans (hb2.mono hb1.size)
  clear hr hr1 hb1 hb2
  have hol := Pl.keep_length l false false
  rw [← hs, size_of] at hol
  have HS : Hid (s.data.toList = Pl.keep false false l) := hs
  clear hs
  go_wp2_with fail
  go_loop [6, 7, 8] (fun j q i => ∃ (m t : Nat) (ins esc : Bool), m ≤ l.length ∧ i = .int .i64 m ∧ j = .int .i64 t ∧ t ≤ s.size ∧ s.data.toList.drop t = Pl.keep ins esc (l.drop m) ∧ q = .bool (Pl.hasQ (l.take m)))
    (fun _ _ i => l.length - (intOf i).toNat)
  case atStart => exact ⟨0, 0, false, false, Nat.zero_le _, rfl, rfl, Nat.zero_le _, HS.out, rfl⟩
  case round =>
    obtain ⟨m, t, ins, esc, hm, rfl, rfl, ht, hd, rfl⟩ := hrel
    by_cases hlt : m < l.length
    · obtain ⟨b, off, rfl, hbs, hc⟩ : ∃ b off, a1 = some (⟨b, off, none⟩ : Addr) ∧ b < w2.heap.size ∧ ∀ i, i < l.length → w2.cell? ⟨b, off + i, none⟩ = some (.int .u8 ((l.getD i 0).toNat : Int)) := by
        rcases hr2 with h | h
        · subst h; simp at hlt
        · exact h
      have c1 : w2.cell? ⟨b, off + m, none⟩ = some (.int .u8 (l[m].toNat : Int)) := by have := hc m hlt; simpa [hlt] using this
      have HQ : Hid (Pl.hasQ (l.take (m + 1)) = (Pl.hasQ (l.take m) || l[m] == 34)) := Pl.hasQ_take l m hlt
      rw [List.drop_eq_getElem_cons hlt] at hd
      generalize hcc : l[m] = c at *
      clear hc hcc hr2
      generalize hqq : Pl.hasQ (l.take m) = q at *
      clear hqq
      rcases Pl.keep_cases ins esc c (l.drop (m + 1)) with ⟨i', e', hkc⟩ | ⟨hw, hkc⟩
      · rw [hkc] at hd
        obtain ⟨hts, hsc, hd'⟩ := drop_at s t c _ hd
        have HD : Hid (s.data.toList.drop (t + 1) = Pl.keep i' e' (l.drop (m + 1))) := hd'
        have he : ((s[t].toNat : Int) == (c.toNat : Int)) = true := by rw [hsc]; simp
        clear hd hd' hkc hsc
        by_cases hq : c = 34
        · have hq' : ((c.toNat : Int) == 34) = true := by subst hq; rfl
          have HQ2 : Hid (Pl.hasQ (l.take (m + 1)) = true) := by show _ = _; rw [HQ.out, hq]; simp
          clear hq HQ
          go_wp2_with fail
          go_round
          case rel => exact ⟨m + 1, t + 1, i', e', by omega, by go_num, by go_num, by omega, HD.out, by rw [HQ2.out]⟩
          case measure => simp [intOf]; omega
        · have hq' : ((c.toNat : Int) == 34) = false := (byte_eq c 34).symm.trans (by simpa using hq)
          have HQ2 : Hid (Pl.hasQ (l.take (m + 1)) = q) := by show _ = _; rw [HQ.out, beq_eq_false_iff_ne.2 hq]; simp
          clear hq HQ
          go_wp2_with fail
          go_round
          case rel => exact ⟨m + 1, t + 1, i', e', by omega, by go_num, by go_num, by omega, HD.out, by rw [HQ2.out]⟩
          case measure => simp [intOf]; omega
      · rw [hkc] at hd
        have HD : Hid (s.data.toList.drop t = Pl.keep false false (l.drop (m + 1))) := hd
        have hq : (c == 34) = false := by
          rw [isWS_int] at hw
          have h34 := byte_eq c 34
          rw [h34]
          show ((c.toNat : Int) == 34) = false
          simp only [Bool.or_eq_true, beq_iff_eq] at hw
          rw [beq_eq_false_iff_ne]
          omega
        have hq' : ((c.toNat : Int) == 34) = false := (byte_eq c 34).symm.trans hq
        have HQ2 : Hid (Pl.hasQ (l.take (m + 1)) = q) := by show _ = _; rw [HQ.out, hq]; simp
        clear hq HQ hkc
        have HW : Hid (Pl.isWS c = true) := hw
        by_cases hts : t < s.size
        · have he : ((s[t].toNat : Int) == (c.toNat : Int)) = false := by
            have h1 : s.data.toList.drop t = s[t] :: s.data.toList.drop (t + 1) := List.drop_eq_getElem_cons (by rw [size_of]; exact hts)
            have h2 := Pl.keep_head (l.drop (m + 1)) s[t] _ (by rw [← hd, h1])
            rw [← byte_eq, beq_eq_false_iff_ne]
            intro h3
            rw [h3, hw] at h2
            cases h2
          clear hd hw
          go_wp2_with fail
          refine (zzIsWS_yes c _ HW.out).mono ?_
          rintro e w3 ⟨rfl, rfl⟩
          go_wp2_with fail
          go_round
          case rel => exact ⟨m + 1, t, false, false, by omega, by go_num, rfl, by omega, HD.out, by rw [HQ2.out]⟩
          case measure => simp [intOf]; omega
        · clear hd hw
          go_wp2_with fail
          refine (zzIsWS_yes c _ HW.out).mono ?_
          rintro e w3 ⟨rfl, rfl⟩
          go_wp2_with fail
          go_round
          case rel => exact ⟨m + 1, t, false, false, by omega, by go_num, rfl, by omega, HD.out, by rw [HQ2.out]⟩
          case measure => simp [intOf]; omega
    · obtain rfl : m = l.length := by omega
      rw [List.drop_length, Pl.keep_nil] at hd
      have hte : t = s.size := by
        have := congrArg List.length hd
        simp only [List.length_drop, size_of, List.length_nil] at this
        omega
      subst hte
      rw [List.take_length]
      clear hd
      cases hQ : Pl.hasQ l with
      | true =>
        go_wp2_with fail
        go_ret
        exact ⟨rfl, hb⟩
      | false =>
        have hall := Pl.keep_noquote l hQ
        rw [← HS.out] at hall
        have HA : Hid (∀ c ∈ s.data.toList, Pl.isWS c = false) := hall
        clear hall hQ
        go_wp2_with fail
        go_loop [10] (fun i => ∃ m : Nat, m ≤ s.size ∧ i = .int .i64 m) (fun i => s.size - (intOf i).toNat)
        case atStart => exact ⟨0, Nat.zero_le _, rfl⟩
        case round =>
          obtain ⟨m, hm, rfl⟩ := hrel
          by_cases hlt : m < s.size
          · have HW : Hid (Pl.isWS s[m] = false) := HA.out _ (by
              show s.data.toList[m]'hlt ∈ s.data.toList
              exact List.getElem_mem _)
            go_wp2_with fail
            refine (zzIsWS_no s[m] _ HW.out).mono ?_
            rintro e w3 ⟨rfl, rfl⟩
            go_wp2_with fail
            go_round
            case rel => exact ⟨m + 1, by omega, by go_num⟩
            case measure => simp [intOf]; omega
          · go_wp2_with fail
            go_ret
            exact ⟨rfl, hb⟩
end Go.Proofs.Qxb6002697a
