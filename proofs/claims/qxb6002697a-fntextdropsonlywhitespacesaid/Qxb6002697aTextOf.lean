/-
  THE WALKS (2): (*Value).Text and zzTextOf.
-/
import Derived.Test.Qxb6002697aWalksC
import Derived.Test.Qxb6002697aShelf
namespace Go.Proofs.Qxb6002697a
open Go.RowKit
set_option linter.unusedVariables false

theorem isSpace_yes (c : UInt8) (w : World) (h : Pl.isWS c = true) :
    Calls Try.prog 30 #[.int .u8 (c.toNat : Int)] w fun e w' => e = .returned (.bool true) ∧ w' = w := by
  have := isSpace_any c w
  rwa [h] at this
theorem isSpace_no (c : UInt8) (w : World) (h : Pl.isWS c = false) :
    Calls Try.prog 30 #[.int .u8 (c.toNat : Int)] w fun e w' => e = .returned (.bool false) ∧ w' = w := by
  have := isSpace_any c w
  rwa [h] at this

theorem byteCells_snoc1 (acc : List UInt8) (c : UInt8) : Lib.byteCells acc ++ [Value.int .u8 (c.toNat : Int)] = Lib.byteCells (acc ++ [c]) := by
  rw [Lib.byteCells_append]; rfl

set_option maxHeartbeats 2000000 in
set_option maxRecDepth 100000 in
theorem text_any (p : Nat) (k : Int) (a : Option Addr) (cap : Nat) (l : List UInt8) (w : World) (hk : (k == 4) = false) (c0 : w.cell? ⟨p, 0, none⟩ = some (.int .u8 k)) (c2 : w.cell? ⟨p, 2, none⟩ = some (.slice a l.length cap)) (hr : Row w a l) (hn : l.length ≤ 1048576) (hp : p < w.heap.size) :
    Calls Try.prog 28 #[.pointer (some ⟨p, 0, none⟩)] w fun e w' => e = .returned (.string ⟨(Pl.keep false false l).toArray⟩) ∧ Below w.heap.size w w' := by
  go_enter Try.func28, Try.ntmps28
  go_wp2_with fail
  have hr0 := hr
  go_loopw [4, 5, 22] (fun s e i wr => ∃ (m : Nat) (ins esc : Bool) (acc : List UInt8), m ≤ l.length ∧ i = .int .i64 m ∧ s = .bool ins ∧ e = .bool esc ∧ Lib.IsBuilderF 55 5 w.heap.size w.heap.size (Lib.byteCells acc) wr ∧ Below w.heap.size w wr ∧ acc ++ Pl.keep ins esc (l.drop m) = Pl.keep false false l ∧ acc.length ≤ m)
    (fun _ _ i _ => l.length - (intOf i).toNat)
  case atStart => exact ⟨0, false, false, [], Nat.zero_le _, rfl, rfl, rfl, Lib.IsBuilderF.of (Lib.fresh_isBuilder 55 5 w), (Below.refl _ w).alloc (Nat.le_refl _) _, rfl, Nat.le_refl _⟩
  case round =>
    obtain ⟨m, ins, esc, acc, hm, rfl, rfl, rfl, hI, hbw, hacc, hal⟩ := hrel
    by_cases hlt : m < l.length
    · obtain ⟨g, off, rfl, hbs, hc⟩ : ∃ b off, a = some (⟨b, off, none⟩ : Addr) ∧ b < w.heap.size ∧ ∀ i, i < l.length → w.cell? ⟨b, off + i, none⟩ = some (.int .u8 ((l.getD i 0).toNat : Int)) := by
        rcases hr with h | h
        · subst h; simp at hlt
        · exact h
      have c1 : wr.cell? ⟨g, off + m, none⟩ = some (.int .u8 (l[m].toNat : Int)) := by rw [hbw.cell (p := ⟨g, off + m, none⟩) hbs]; have := hc m hlt; simpa [hlt] using this
      rw [List.drop_eq_getElem_cons hlt] at hacc
      have HA : Hid (acc ++ Pl.keep ins esc (l[m] :: l.drop (m + 1)) = Pl.keep false false l) := hacc
      generalize l[m] = c at *
      clear hc hacc hr hr0 c0 c2
      cases esc with
      | true =>
        have HK : Hid ((acc ++ [c]) ++ Pl.keep ins false (l.drop (m + 1)) = Pl.keep false false l) := by
          show _ = _
          rw [← HA.out, Pl.keep_esc]; simp
        clear HA
        go_wp2_with fail
        refine (Try.Builder_WriteByte_k w.heap.size w.heap.size _ _ _ hI (by rw [Lib.byteCells_length]; omega) (by have := hbw.size; omega)).mono ?_
        rintro e w1 ⟨rfl, h1, b1, -⟩
        rw [byteCells_snoc1] at h1
        have hb1 := hbw.trans b1
        go_wp2_with fail
        go_roundw
        case rel => exact ⟨m + 1, ins, false, acc ++ [c], by omega, by go_num, rfl, rfl, .inr h1, hb1, HK.out, by simp; omega⟩
        case measure => simp [intOf]; omega
      | false =>
        cases ins with
        | true =>
          have HK : Hid ((acc ++ [c]) ++ Pl.keep (c != 34) (c == 92) (l.drop (m + 1)) = Pl.keep false false l) := by
            show _ = _
            rw [← HA.out, Pl.keep_ins]; simp
          have H34 : Hid (((c.toNat : Int) != 34) = (c != 34)) := by show (!((c.toNat : Int) == 34)) = (!(c == 34)); rw [byte_eq c 34]; rfl
          have H92 : Hid (((c.toNat : Int) == 92) = (c == 92)) := (byte_eq c 92).symm
          clear HA
          go_wp2_with fail
          refine (Try.Builder_WriteByte_k w.heap.size w.heap.size _ _ _ hI (by rw [Lib.byteCells_length]; omega) (by have := hbw.size; omega)).mono ?_
          rintro e w1 ⟨rfl, h1, b1, -⟩
          rw [byteCells_snoc1] at h1
          have hb1 := hbw.trans b1
          go_wp2_with fail
          go_roundw
          case rel => exact ⟨m + 1, (c != 34), (c == 92), acc ++ [c], by omega, by go_num, congrArg Value.bool H34.out, congrArg Value.bool H92.out, .inr h1, hb1, HK.out, by simp; omega⟩
          case measure => simp [intOf]; omega
        | false =>
          by_cases hq : c = 34
          · have hq' : ((c.toNat : Int) == 34) = true := by subst hq; rfl
            have HK : Hid ((acc ++ [c]) ++ Pl.keep true false (l.drop (m + 1)) = Pl.keep false false l) := by
              show _ = _
              rw [← HA.out, hq, Pl.keep_quote]; simp
            clear HA hq
            go_wp2_with fail
            refine (Try.Builder_WriteByte_k w.heap.size w.heap.size _ _ _ hI (by rw [Lib.byteCells_length]; omega) (by have := hbw.size; omega)).mono ?_
            rintro e w1 ⟨rfl, h1, b1, -⟩
            rw [byteCells_snoc1] at h1
            have hb1 := hbw.trans b1
            go_wp2_with fail
            go_roundw
            case rel => exact ⟨m + 1, true, false, acc ++ [c], by omega, by go_num, rfl, rfl, .inr h1, hb1, HK.out, by simp; omega⟩
            case measure => simp [intOf]; omega
          · have hq' : ((c.toNat : Int) == 34) = false := (byte_eq c 34).symm.trans (by simpa using hq)
            cases hw : Pl.isWS c with
            | true =>
              have HK : Hid (acc ++ Pl.keep false false (l.drop (m + 1)) = Pl.keep false false l) := by
                show _ = _
                rw [← HA.out, Pl.keep_ws c _ hw]
              have HW : Hid (Pl.isWS c = true) := hw
              clear HA hq hw
              go_wp2_with fail
              refine (isSpace_yes c _ HW.out).mono ?_
              rintro e w3 ⟨rfl, rfl⟩
              go_wp2_with fail
              go_roundw
              case rel => exact ⟨m + 1, false, false, acc, by omega, by go_num, rfl, rfl, hI, hbw, HK.out, by omega⟩
              case measure => simp [intOf]; omega
            | false =>
              have HK : Hid ((acc ++ [c]) ++ Pl.keep false false (l.drop (m + 1)) = Pl.keep false false l) := by
                show _ = _
                rw [← HA.out, Pl.keep_plain c _ hw (by simpa using hq)]; simp
              have HW : Hid (Pl.isWS c = false) := hw
              clear HA hq hw
              go_wp2_with fail
              refine (isSpace_no c _ HW.out).mono ?_
              rintro e w3 ⟨rfl, rfl⟩
              go_wp2_with fail
              refine (Try.Builder_WriteByte_k w.heap.size w.heap.size _ _ _ hI (by rw [Lib.byteCells_length]; omega) (by have := hbw.size; omega)).mono ?_
              rintro e w1 ⟨rfl, h1, b1, -⟩
              rw [byteCells_snoc1] at h1
              have hb1 := hbw.trans b1
              go_wp2_with fail
              go_roundw
              case rel => exact ⟨m + 1, false, false, acc ++ [c], by omega, by go_num, rfl, rfl, .inr h1, hb1, HK.out, by simp; omega⟩
              case measure => simp [intOf]; omega
    · obtain rfl : m = l.length := by omega
      rw [List.drop_length, Pl.keep_nil, List.append_nil] at hacc
      subst hacc
      go_wp2_with fail
      refine (Try.Builder_String_any_k w.heap.size w.heap.size _ _ hI (by have := hbw.size; omega)).mono ?_
      rintro e w1 ⟨rfl, -, b1, -⟩
      go_wp2_with fail
      go_ret
      exact ⟨rfl, hbw.trans b1⟩

set_option maxHeartbeats 1000000 in
set_option maxRecDepth 100000 in
theorem textOf_said : TextOfSaid := by
  intro k a cap l w hk hr hn
  have hb0 : ∀ o, Below w.heap.size w (w.alloc o) := fun o => (Below.refl _ w).alloc (Nat.le_refl _) o
  have hr' : ∀ o, Row (w.alloc o) a l := fun o => hr.below (hb0 o)
  go_enter Try.func22, Try.ntmps22
  go_wp2_with fail
  refine (text_any w.heap.size k a cap l _ hk (by simp) (by simp) (hr' _) hn (by simp)).mono ?_
  rintro e w1 ⟨rfl, hb1⟩
  go_wp2_with fail
  go_ret
  exact ⟨_, rfl, rfl, (hb0 _).trans (hb1.mono (by simp))⟩
end Go.Proofs.Qxb6002697a
