/-
  THE WALKS (4): the law 'FnTextIgnoresLeadingWhiteSpace' out of zzTextOf's contract.
-/
import Derived.Test.Qxb6002697aWalksC
namespace Go.Proofs.Qxb6002697a
open Go.RowKit
set_option linter.unusedVariables false

/-- zzWS. -/
def wsOf (c : UInt8) : UInt8 := if c.toNat % 4 = 0 then 32 else if c.toNat % 4 = 1 then 9 else if c.toNat % 4 = 2 then 10 else 13
theorem wsOf_ws (c : UInt8) : Pl.isWS (wsOf c) = true := by
  unfold wsOf
  split
  · rfl
  · split
    · rfl
    · split <;> rfl

theorem zzWS_any (c : UInt8) (w : World) :
    Calls Try.prog 26 #[.int .u8 (c.toNat : Int)] w fun e w' => e = .returned (.int .u8 ((wsOf c).toNat : Int)) ∧ w' = w := by
  have hc : c.toNat < 256 := c.toNat_lt
  unfold wsOf
  rcases (show c.toNat % 4 = 0 ∨ c.toNat % 4 = 1 ∨ c.toNat % 4 = 2 ∨ c.toNat % 4 = 3 by omega) with h | h | h | h
  all_goals
    simp only [h]
    have h' : (c.toNat : Int) % 4 = ((c.toNat % 4 : Nat) : Int) := by omega
    rw [h] at h'
    clear h
    generalize c.toNat = n at *
    go_enter Try.func26, Try.ntmps26
    go_wp2
    go_ret
    exact ⟨rfl, rfl⟩

theorem bytes25_yes (k : Int) (a : Option Addr) (n cap : Nat) (b : Option Addr) (m cbp : Nat) (w : World) (hn : n + m ≤ 1048576) :
    Calls Try.prog 25 #[.int .u8 k, .slice a n cap, .slice b m cbp] w fun e w' => e = .returned (.bool true) ∧ w' = w := by
  go_enter Try.func25, Try.ntmps25
  go_wp2
  go_ret
  exact ⟨rfl, rfl⟩
theorem bytes25_no (k : Int) (a : Option Addr) (n cap : Nat) (b : Option Addr) (m cbp : Nat) (w : World) (hn : 1048576 < n + m) :
    Calls Try.prog 25 #[.int .u8 k, .slice a n cap, .slice b m cbp] w fun e w' => e = .returned (.bool false) ∧ w' = w := by
  by_cases h1 : 1048576 < n
  · go_enter Try.func25, Try.ntmps25
    go_wp2
    go_ret
    exact ⟨rfl, rfl⟩
  · by_cases h2 : 1048576 < m
    · go_enter Try.func25, Try.ntmps25
      go_wp2
      go_ret
      exact ⟨rfl, rfl⟩
    · go_enter Try.func25, Try.ntmps25
      go_wp2
      go_ret
      exact ⟨rfl, rfl⟩

theorem ign_big (k : Int) (a : Option Addr) (n cap : Nat) (b : Option Addr) (m cbp : Nat) (w : World) (hn : 1048576 < n + m) :
    Calls Try.prog 10 #[.int .u8 k, .slice a n cap, .slice b m cbp] w fun e w' => e = .returned (.bool true) ∧ Below w.heap.size w w' := by
  go_enter Try.func10, Try.ntmps10
  go_wp2_with (go_at_call 25; refine (bytes25_no _ _ _ _ _ _ _ _ hn).mono ?_; rintro e w' ⟨rfl, rfl⟩)
  go_ret
  exact ⟨rfl, Below.refl _ _⟩
theorem ign_string (k : Int) (a : Option Addr) (n cap : Nat) (b : Option Addr) (m cbp : Nat) (w : World) (hn : n + m ≤ 1048576) (hk : (k == 4) = true) :
    Calls Try.prog 10 #[.int .u8 k, .slice a n cap, .slice b m cbp] w fun e w' => e = .returned (.bool true) ∧ Below w.heap.size w w' := by
  go_enter Try.func10, Try.ntmps10
  go_wp2_with (go_at_call 25; refine (bytes25_yes _ _ _ _ _ _ _ _ hn).mono ?_; rintro e w' ⟨rfl, rfl⟩)
  go_ret
  exact ⟨rfl, Below.refl _ _⟩

theorem bcells_snoc (p : List UInt8) (c : UInt8) : bcells (p ++ [c]) = bcells p ++ [.int .u8 (c.toNat : Int)] := by simp [bcells]

set_option maxHeartbeats 1000000 in
theorem ign_main (hT : TextOfSaid) (k : Int) (a : Option Addr) (cap : Nat) (p : List UInt8) (b : Option Addr) (cbp : Nat) (l : List UInt8) (w : World) (hr : Row w a p) (hs : Row w b l) (hn : p.length + l.length ≤ 1048576) (hk : (k == 4) = false) :
    Calls Try.prog 10 #[.int .u8 k, .slice a p.length cap, .slice b l.length cbp] w fun e w' => e = .returned (.bool true) ∧ Below w.heap.size w w' := by
  obtain ⟨i0, hi, hz0, hz1, hz2⟩ := info_parts Try.info5
  go_enter Try.func10, Try.ntmps10
  go_wp2_with (go_at_call 25; refine (bytes25_yes _ _ _ _ _ _ _ _ hn).mono ?_; rintro e w' ⟨rfl, rfl⟩)
  go_wp2_with fail
  refine (clone_any _ _ _ _ hr (by omega)).mono ?_
  rintro e w1 ⟨a1, cap1, rfl, hr1, hb1⟩
  have hs1 := hs.below hb1
  clear hr hs
  go_wp2_with fail
  refine (clone_any _ _ _ _ hs1 (by omega)).mono ?_
  rintro e w2 ⟨b1, cbp1, rfl, hs2, hb2⟩
  have hr2 := hr1.below hb2
  have hb := hb1.trans (hb2.mono hb1.size)
  clear hr1 hs1 hb1 hb2
  have HL : Hid ((p.map wsOf).length = p.length) := List.length_map _
  go_wp2_with (at_make; refine wpList_make_own _ rfl _ _ 31 rfl w2.heap.size 5 i0 (.int .u8 0) 1 Try.underlying31 hi hz0 hz1 .i64 .i64 _ (p.length + l.length) rfl rfl (by omega) ?c2 ?c3 ?c4 ?_)
  case c2 => rw [hz2]; omega
  case c3 => unfold maxLen; omega
  case c4 => omega
  intro w3 hown hgrow
  have hb3 := (Below.refl w2.heap.size w2).grown hgrow (Nat.le_refl _) (fun k h => by cases h)
  clear hgrow
  go_wp2_with fail
  go_loopw [7, 8] (fun v i wr => ∃ m : Nat, m ≤ p.length ∧ i = .int .i64 m ∧ v = .slice (some ⟨w2.heap.size, 0, none⟩) m (p.length + l.length) ∧ wr.ownsRow w2.heap.size 5 1 (.slice (some ⟨w2.heap.size, 0, none⟩) m (p.length + l.length)) m (bcells ((p.map wsOf).take m)) ∧ Below w2.heap.size w2 wr)
    (fun _ i _ => p.length - (intOf i).toNat)
  case atStart => exact ⟨0, Nat.zero_le _, rfl, rfl, hown, hb3⟩
  case round =>
    clear hown hb3
    obtain ⟨m, hm, rfl, rfl, ho, hbw⟩ := hrel
    by_cases hlt : m < p.length
    · obtain ⟨g, off, rfl, hbs, hc⟩ : ∃ b off, a1 = some (⟨b, off, none⟩ : Addr) ∧ b < w2.heap.size ∧ ∀ i, i < p.length → w2.cell? ⟨b, off + i, none⟩ = some (.int .u8 ((p.getD i 0).toNat : Int)) := by
        rcases hr2 with h | h
        · subst h; simp at hlt
        · exact h
      have c1 : wr.cell? ⟨g, off + m, none⟩ = some (.int .u8 (p[m].toNat : Int)) := by rw [hbw.cell (p := ⟨g, off + m, none⟩) hbs]; have := hc m hlt; simpa [hlt] using this
      have HT : Hid (bcells ((p.map wsOf).take (m + 1)) = bcells ((p.map wsOf).take m) ++ [.int .u8 ((wsOf p[m]).toNat : Int)]) := by
        show _ = _
        rw [List.take_succ_eq_append_getElem (by rw [HL.out]; exact hlt), bcells_snoc]
        simp
      have hsz := hbw.size
      generalize p[m] = c at *
      clear hc
      go_wp2_with fail
      refine (zzWS_any c _).mono ?_
      rintro e w4 ⟨rfl, rfl⟩
      go_wp2_with (at_builtin; refine wpList_append_fits _ rfl _ _ 31 rfl w2.heap.size 5 i0 1 Try.underlying31 hi hz1 w2.heap.size m (p.length + l.length) (bcells ((p.map wsOf).take m)) rfl (ho.alloc _) ⟨w4.heap.size, 0, none⟩ 1 1 [.int .u8 ((wsOf c).toNat : Int)] rfl rfl (cell_one_new _ _ _) ?d2 ?d3 ?_)
      case d2 => intro u hu; simp at hu; subst hu; rfl
      case d3 => omega
      intro w5 hown5 hgrow5
      rw [← HT.out] at hown5
      have hb5 := (hbw.alloc hsz (.cells #[.int .u8 ((wsOf c).toNat : Int)] 5)).grown hgrow5 (by simp; omega) (fun k h => by cases h; exact Nat.le_refl _)
      clear hgrow5 ho hbw
      go_wp2_with fail
      go_roundw
      case rel => exact ⟨m + 1, by omega, by go_num, rfl, hown5, hb5⟩
      case measure => simp [intOf]; omega
    · obtain rfl : m = p.length := by omega
      have HT : Hid (bcells ((p.map wsOf).take p.length) = bcells (p.map wsOf)) := by
        show _ = _
        rw [List.take_of_length_le (by rw [HL.out]; exact Nat.le_refl _)]
      rw [HT.out] at ho
      clear HT
      obtain ⟨w6, rfl⟩ : ∃ w6 : World, w6 = wr := ⟨_, rfl⟩
      have HWq : Hid (∀ c ∈ p.map wsOf, Pl.isWS c = true) := by
        show ∀ c ∈ p.map wsOf, Pl.isWS c = true
        intro c hc
        obtain ⟨d, _, rfl⟩ := List.mem_map.1 hc
        exact wsOf_ws d
      generalize p.map wsOf = q at *
      go_wp2_with fail
      go_loopw [7, 9] (fun v i wr => ∃ m : Nat, m ≤ l.length ∧ i = .int .i64 m ∧ v = .slice (some ⟨w2.heap.size, 0, none⟩) (p.length + m) (p.length + l.length) ∧ wr.ownsRow w2.heap.size 5 1 (.slice (some ⟨w2.heap.size, 0, none⟩) (p.length + m) (p.length + l.length)) (p.length + m) (bcells (q ++ l.take m)) ∧ Below w2.heap.size w2 wr)
        (fun _ i _ => l.length - (intOf i).toNat)
      case atStart => exact ⟨0, Nat.zero_le _, rfl, rfl, by simpa using ho, hbw⟩
      case round =>
        clear ho hbw
        obtain ⟨m, hm, rfl, rfl, ho, hbw⟩ := hrel
        by_cases hlt2 : m < l.length
        · obtain ⟨g, off, rfl, hbs, hc⟩ : ∃ b off, b1 = some (⟨b, off, none⟩ : Addr) ∧ b < w2.heap.size ∧ ∀ i, i < l.length → w2.cell? ⟨b, off + i, none⟩ = some (.int .u8 ((l.getD i 0).toNat : Int)) := by
            rcases hs2 with h | h
            · subst h; simp at hlt2
            · exact h
          have c1 : wr.cell? ⟨g, off + m, none⟩ = some (.int .u8 (l[m].toNat : Int)) := by rw [hbw.cell (p := ⟨g, off + m, none⟩) hbs]; have := hc m hlt2; simpa [hlt2] using this
          have HT : Hid (bcells (q ++ l.take (m + 1)) = bcells (q ++ l.take m) ++ [.int .u8 (l[m].toNat : Int)]) := by
            show _ = _
            rw [List.take_succ_eq_append_getElem hlt2, ← List.append_assoc, bcells_snoc]
          have hsz := hbw.size
          generalize l[m] = c at *
          clear hc
          go_wp2_with (at_builtin; refine wpList_append_fits _ rfl _ _ 31 rfl w2.heap.size 5 i0 1 Try.underlying31 hi hz1 w2.heap.size (p.length + m) (p.length + l.length) (bcells (q ++ l.take m)) rfl (ho.alloc _) ⟨wr.heap.size, 0, none⟩ 1 1 [.int .u8 (c.toNat : Int)] rfl rfl (cell_one_new _ _ _) ?d2 ?d3 ?_)
          case d2 => intro u hu; simp at hu; subst hu; rfl
          case d3 => omega
          intro w5 hown5 hgrow5
          rw [← HT.out] at hown5
          have hb5 := (hbw.alloc hsz (.cells #[.int .u8 (c.toNat : Int)] 5)).grown hgrow5 (by simp; omega) (fun k h => by cases h; exact Nat.le_refl _)
          clear hgrow5 ho hbw
          go_wp2_with fail
          go_roundw
          case rel => exact ⟨m + 1, by omega, by go_num, rfl, hown5, hb5⟩
          case measure => simp [intOf]; omega
        · obtain rfl : m = l.length := by omega
          rw [List.take_length] at ho
          have hrow := row_of_owns ho
          have hs3 : Row wr b1 l := hs2.below hbw
          have hbb := hb.trans (hbw.mono hb.size)
          have h1 := hT k (some ⟨w2.heap.size, 0, none⟩) (p.length + l.length) (q ++ l) wr hk hrow (by rw [List.length_append, HL.out]; exact hn)
          rw [List.length_append, HL.out, Pl.keep_pad q l HWq.out] at h1
          clear ho hbw hrow hs2 hr2
          go_wp2_with fail
          refine h1.mono ?_
          rintro e w7 ⟨s1, rfl, hs1, hb7⟩
          have hs4 := hs3.below hb7
          clear h1 hs3
          go_wp2_with fail
          refine (hT _ _ _ _ _ hk hs4 (by omega)).mono ?_
          rintro e w8 ⟨s2, rfl, hs5, hb8⟩
          have he : (s1.toList == s2.toList) = true := by
            have : s1 = s2 := by
              cases s1; cases s2
              congr 1
              exact Array.toList_inj.1 (hs1.trans hs5.symm)
            subst this
            simp
          clear hs1 hs5 hs4
          go_wp2_with fail
          go_ret
          exact ⟨rfl, (hbb.trans (hb7.mono hbb.size)).trans (hb8.mono (by have := hbb.size; have := hb7.size; omega))⟩
end Go.Proofs.Qxb6002697a
