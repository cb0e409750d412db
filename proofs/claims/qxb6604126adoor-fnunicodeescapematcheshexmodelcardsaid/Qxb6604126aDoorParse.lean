/-
  THE WALKS (1): internal/strconv.lower, internal/strconv.ParseUint at base 16, 16 bits, one to four bytes.
-/
import Derived.Test.Qxb6604126aDoorProg
import Derived.Test.Qxb6604126aDoorPlain
import Derived.WalkKit
import Derived.WalkSpells
import Derived.Lib.ConvBytes
import Derived.Lib.AtoiErrMem
namespace Go.Proofs.Qxb6604126aDoor
open Go.RowKit
set_option linter.unusedVariables false

theorem or32_all : ∀ n : Fin 256, bits .or .u8 (n.val : Int) 32 = ((n.val ||| 32 : Nat) : Int) := by decide +kernel
theorem or32 (c : UInt8) : bits .or .u8 (c.toNat : Int) 32 = (Pl.lo c : Int) := or32_all ⟨c.toNat, c.toNat_lt⟩

theorem lower_any (c : UInt8) (w : World) :
    Calls Tryd.prog 16 #[.int .u8 (c.toNat : Int)] w fun e w' => e = .returned (.int .u8 (Pl.lo c : Int)) ∧ w' = w := by
  have h := or32 c
  generalize (Pl.lo c : Int) = x at *
  have H : Hid (bits .or .u8 (c.toNat : Int) 32 = x) := h
  clear h
  go_enter Tryd.func16, Tryd.ntmps16
  go_wp2
  go_ret
  exact ⟨by rw [← H.out]; rfl, rfl⟩

/-- What ParseUint hands back. -/
def uintT : Option Nat → Value
  | some v => .tuple #[.int .u64 (v : Int), .nilIface]
  | none => .tuple #[.int .u64 0, .iface 38 (.int .i64 2)]

/-- The bound on what k digits spell. -/
def Small (k : Nat) (a : Int) : Prop := a ≤ 65535 ∧ (k ≤ 3 → a ≤ 4095) ∧ (k ≤ 2 → a ≤ 255) ∧ (k ≤ 1 → a ≤ 15) ∧ (k ≤ 0 → a ≤ 0)
theorem Small.next {k : Nat} {a d : Int} (h : Small k a) (hk : k ≤ 3) (h0 : 0 ≤ a) (hd : d ≤ 15) : Small (k + 1) (a * 16 + d) := by
  obtain ⟨h1, h2, h3, h4, h5⟩ := h
  refine ⟨?_, ?_, ?_, ?_, ?_⟩ <;> omega

set_option maxHeartbeats 4000000 in
set_option maxRecDepth 100000 in
theorem parse16 (t : ByteArray) (hne : 0 < t.size) (hmax : t.size ≤ 4) (w : World) :
    Calls Tryd.prog 14 #[.string t, .int .i64 16, .int .i64 16] w fun e w' => e = .returned (uintT (Pl.hexP 0 t.data.toList)) ∧ Below w.heap.size w w' := by
  have hemp : t.toList.isEmpty = false := by
    rw [ByteArray.toList_eq]
    have : t.data.toList.length = t.size := rfl
    cases hl : t.data.toList with
    | nil => rw [hl] at this; simp at this; omega
    | cons _ _ => rfl
  have hcv := Lib.run_convert_string_bytes (P := Tryd.prog) w 9 22 5 t (u := .string) Tryd.underlying9 Tryd.underlying22 Tryd.underlying5
  have hB : ∀ j, j < t.size → (Lib.bytesWorld w 5 t).cell? ⟨w.heap.size, j, none⟩ = some (.int .u8 (t.data.toList.getD j 0).toNat) := fun j hj => Lib.bytesWorld_cell w 5 t j hj
  have hbel := Lib.bytesWorld_below w 5 t
  generalize Lib.bytesWorld w 5 t = W1 at *
  have hLn : t.data.toList.length = t.size := rfl
  generalize t.data.toList = bs at *
  go_enter Tryd.func14, Tryd.ntmps14
  go_wp2
  go_loop [12, 13, 101] (fun vu vn vi => ∃ (k acc : Nat) (a : Int), vu = .bool false ∧ vn = .int .u64 a ∧ vi = .int .i64 k ∧ k ≤ t.size ∧ 0 ≤ a ∧ Hid (a = (acc : Int) ∧ Small k a ∧ Pl.hexP 0 bs = Pl.hexP acc (bs.drop k)))
    (fun _ _ vi => t.size - (intOf vi).toNat)
  case atStart => exact ⟨0, 0, 0, rfl, rfl, rfl, by omega, by omega, rfl, by unfold Small; omega, rfl⟩
  case round =>
    obtain ⟨k, acc, a, rfl, rfl, rfl, hk, a0, hh⟩ := hrel
    obtain ⟨ha, hsm, hdec⟩ := hh.out
    clear hh hcv hemp
    by_cases hkn : k < t.size
    · have hc := hB k hkn
      have hdrop : bs.drop k = bs[k]'(by omega) :: bs.drop (k + 1) := List.drop_eq_getElem_cons (by omega)
      have hget : bs.getD k 0 = bs[k]'(by omega) := by simp [List.getD, List.getElem?_eq_getElem (show k < bs.length by omega)]
      rw [hdrop] at hdec
      rw [hget] at hc
      generalize bs[k]'(by omega) = c at hc hdec
      clear hB hdrop hget
      have a4 : a ≤ 4095 := hsm.2.1 (by omega)
      have hlow := fun w => lower_any c w
      have hx1 : (Pl.lo c : Int) ≤ 255 := by have := Pl.lo_le c; omega
      have hx0 : 0 ≤ (Pl.lo c : Int) := by omega
      have hn1 : (c.toNat : Int) ≤ 255 := by have := c.toNat_lt; omega
      have hn0 : 0 ≤ (c.toNat : Int) := by omega
      rcases Pl.hexV_cases c with ⟨h1, h2, hv⟩ | ⟨h1, h2, h3, hv⟩ | ⟨h1, h2, hv⟩
      · have HN : Hid (a * 16 + ((c.toNat : Int) - 48) = ((acc * 16 + (c.toNat - 48) : Nat) : Int) ∧ Small (k + 1) (a * 16 + ((c.toNat : Int) - 48)) ∧ Pl.hexP 0 bs = Pl.hexP (acc * 16 + (c.toNat - 48)) (bs.drop (k + 1))) :=
          ⟨by omega, hsm.next (by omega) a0 (by omega), by rw [hdec, Pl.hexP_hit _ _ _ _ hv]⟩
        have g1 : 48 ≤ (c.toNat : Int) := by omega
        have g2 : (c.toNat : Int) ≤ 57 := by omega
        obtain ⟨m, hm⟩ : ∃ m : Nat, m = acc * 16 + (c.toNat - 48) := ⟨_, rfl⟩
        rw [← hm] at HN
        clear hdec hsm hv h1 h2 hlow hx0 hx1 hm ha
        generalize (c.toNat : Int) = n at *
        go_wp2
        go_round
        case rel => exact ⟨k + 1, m, _, rfl, rfl, by go_num, by omega, by omega, HN⟩
        case measure => simp [intOf]; omega
      · have HN : Hid (a * 16 + ((Pl.lo c : Int) - 97 + 10) = ((acc * 16 + (Pl.lo c - 87) : Nat) : Int) ∧ Small (k + 1) (a * 16 + ((Pl.lo c : Int) - 97 + 10)) ∧ Pl.hexP 0 bs = Pl.hexP (acc * 16 + (Pl.lo c - 87)) (bs.drop (k + 1))) :=
          ⟨by omega, hsm.next (by omega) a0 (by omega), by rw [hdec, Pl.hexP_hit _ _ _ _ hv]⟩
        have g1 : 97 ≤ (Pl.lo c : Int) := by omega
        have g2 : (Pl.lo c : Int) ≤ 102 := by omega
        have g3 : ¬ (48 ≤ (c.toNat : Int) ∧ (c.toNat : Int) ≤ 57) := by omega
        have g4 : ((c.toNat : Int) == 95) = false := by
          rw [beq_eq_false_iff_ne]
          intro h
          have : c = 95 := UInt8.toNat_inj.1 (by rw [show (95 : UInt8).toNat = 95 from rfl]; omega)
          subst this
          exact absurd h3 (by decide)
        obtain ⟨m, hm⟩ : ∃ m : Nat, m = acc * 16 + (Pl.lo c - 87) := ⟨_, rfl⟩
        rw [← hm] at HN
        clear hdec hsm hv h1 h2 h3 hm ha
        generalize (c.toNat : Int) = n at *
        generalize (Pl.lo c : Int) = x at *
        by_cases g5 : 48 ≤ n
        all_goals
          go_wp2_with (go_at_call 16; refine (hlow _).mono ?_; rintro e w' ⟨rfl, rfl⟩)
          go_round
          case rel => exact ⟨k + 1, m, _, rfl, rfl, by go_num, by omega, by omega, HN⟩
          case measure => simp [intOf]; omega
      · have HF : Hid (Pl.hexP 0 bs = none) := by show _ = _; rw [hdec, Pl.hexP_miss _ _ _ hv]
        have g2 : ¬ (97 ≤ (Pl.lo c : Int) ∧ (Pl.lo c : Int) ≤ 102) := by omega
        have g3 : ¬ (48 ≤ (c.toNat : Int) ∧ (c.toNat : Int) ≤ 57) := by omega
        clear hdec hsm hv h1 h2 ha
        generalize (c.toNat : Int) = n at *
        generalize (Pl.lo c : Int) = x at *
        rcases (show (103 ≤ x ∧ x ≤ 122) ∨ 122 < x ∨ x < 97 by omega) with ⟨g4, g5⟩ | g4 | g4
        all_goals
          clear g2
          by_cases h95 : n = 95
          · subst h95
            go_wp2_with (go_at_call 16; refine (hlow _).mono ?_; rintro e w' ⟨rfl, rfl⟩)
            go_ret2
            exact ⟨by rw [HF.out]; rfl, hbel⟩
          · have h95' : (n == 95) = false := by simpa using h95
            clear h95
            by_cases g6 : 48 ≤ n
            · go_wp2_with (go_at_call 16; refine (hlow _).mono ?_; rintro e w' ⟨rfl, rfl⟩)
              go_ret2
              exact ⟨by rw [HF.out]; rfl, hbel⟩
            · go_wp2_with (go_at_call 16; refine (hlow _).mono ?_; rintro e w' ⟨rfl, rfl⟩)
              go_ret2
              exact ⟨by rw [HF.out]; rfl, hbel⟩
    · obtain rfl : k = t.size := by omega
      rw [List.drop_eq_nil_of_le (by omega), Pl.hexP_nil] at hdec
      have HF : Hid (Pl.hexP 0 bs = some acc) := hdec
      have HA : Hid (a = (acc : Int)) := ha
      clear hdec ha hB hsm
      go_wp2
      go_ret2
      exact ⟨by rw [HF.out, HA.out]; rfl, hbel⟩
end Go.Proofs.Qxb6604126aDoor
