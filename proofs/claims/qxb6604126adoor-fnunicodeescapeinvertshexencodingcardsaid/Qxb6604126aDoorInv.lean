/-
  THE WALKS (4): the law 'FnUnicodeEscapeInvertsHexEncoding'.
-/
import Derived.Test.Qxb6604126aDoorParts
namespace Go.Proofs.Qxb6604126aDoor
open Go.RowKit
set_option linter.unusedVariables false

theorem hexChar_ex (x : Int) (n : Nat) (u : Bool) (w : World) (hx : x = (n : Int)) (hn : n < 16) :
    Calls Tryd.prog 10 #[.int .u8 x, .bool u] w fun e w' => ∃ h : UInt8, e = .returned (.int .u8 (h.toNat : Int)) ∧ Hid (Pl.hexV h = some n) ∧ w' = w :=
  (hexChar_any x n u w hx hn).mono fun e w' ⟨he, hw⟩ => ⟨hexC n u, he, hexC_hexV n hn u, hw⟩

/-- Six stores at a row's head. -/
theorem six {W w : World} {B g n : Nat} {xs : List Value} (h : W.ownsRow B 5 1 (.slice (some ⟨g, 0, none⟩) n n) n xs) (hg : B ≤ g) (hb : Below B w W) (h6 : 6 ≤ xs.length) (v0 v1 v2 v3 v4 v5 : Value) :
    ∃ ys, ((((((W.setCell ⟨g, 0, none⟩ v0).setCell ⟨g, 1, none⟩ v1).setCell ⟨g, 2, none⟩ v2).setCell ⟨g, 3, none⟩ v3).setCell ⟨g, 4, none⟩ v4).setCell ⟨g, 5, none⟩ v5).ownsRow B 5 1 (.slice (some ⟨g, 0, none⟩) n n) n ys ∧
      ys.take 6 = [v0, v1, v2, v3, v4, v5] ∧ Below B w ((((((W.setCell ⟨g, 0, none⟩ v0).setCell ⟨g, 1, none⟩ v1).setCell ⟨g, 2, none⟩ v2).setCell ⟨g, 3, none⟩ v3).setCell ⟨g, 4, none⟩ v4).setCell ⟨g, 5, none⟩ v5) := by
  refine ⟨_, ((((((h.stored 0 v0).1.stored 1 v1).1.stored 2 v2).1.stored 3 v3).1.stored 4 v4).1.stored 5 v5).1, ?_,
    (((((hb.setCell (p := ⟨g, 0, none⟩) hg v0).setCell (p := ⟨g, 1, none⟩) hg v1).setCell (p := ⟨g, 2, none⟩) hg v2).setCell (p := ⟨g, 3, none⟩) hg v3).setCell (p := ⟨g, 4, none⟩) hg v4).setCell (p := ⟨g, 5, none⟩) hg v5⟩
  match xs, h6 with
  | a :: b :: c :: d :: e :: f :: r, _ => simp

/-- A store behind the head leaves the head. -/
theorem take_six (ys : List Value) (k : Nat) (v : Value) (h : 6 ≤ k) : (ys.set k v).take 6 = ys.take 6 := by
  rw [List.take_set_of_le h]

/-- The head's cells. -/
theorem head_cell {W : World} {B g n : Nat} {ys : List Value} {L : List Value} (h : W.ownsRow B 5 1 (.slice (some ⟨g, 0, none⟩) n n) n ys) (hn : 6 ≤ n) (ht : ys.take 6 = L) (j : Nat) (hj : j < 6) : W.cell? ⟨g, j, none⟩ = L[j]? := by
  rw [h.cellAt j (by omega), ← ht, List.getElem?_take, if_pos hj]

theorem hexP4 (n0 n1 n2 n3 : Nat) (h0 h1 h2 h3 : UInt8) (e0 : Pl.hexV h0 = some n0) (e1 : Pl.hexV h1 = some n1) (e2 : Pl.hexV h2 = some n2) (e3 : Pl.hexV h3 = some n3) :
    Pl.hexP 0 [h0, h1, h2, h3] = some (((n0 * 16 + n1) * 16 + n2) * 16 + n3) := by
  rw [Pl.hexP_hit _ _ _ _ e0, Pl.hexP_hit _ _ _ _ e1, Pl.hexP_hit _ _ _ _ e2, Pl.hexP_hit _ _ _ _ e3, Pl.hexP_nil]
  congr 1
  omega

theorem bytes9_yes (u c : Int) (a : Option Addr) (n cap : Nat) (w : World) (hn : n ≤ 1048576) :
    Calls Tryd.prog 9 #[.int .u16 u, .int .u8 c, .slice a n cap] w fun e w' => e = .returned (.bool true) ∧ w' = w := by
  go_enter Tryd.func9, Tryd.ntmps9
  go_wp2
  go_ret
  exact ⟨rfl, rfl⟩
theorem bytes9_no (u c : Int) (a : Option Addr) (n cap : Nat) (w : World) (hn : 1048576 < n) :
    Calls Tryd.prog 9 #[.int .u16 u, .int .u8 c, .slice a n cap] w fun e w' => e = .returned (.bool false) ∧ w' = w := by
  go_enter Tryd.func9, Tryd.ntmps9
  go_wp2
  go_ret
  exact ⟨rfl, rfl⟩
theorem inv_big (u c : Int) (a : Option Addr) (n cap : Nat) (w : World) (hn : 1048576 < n) :
    Calls Tryd.prog 4 #[.int .u16 u, .int .u8 c, .slice a n cap] w fun e w' => e = .returned (.bool true) ∧ Below w.heap.size w w' := by
  go_enter Tryd.func4, Tryd.ntmps4
  go_wp2_with (go_at_call 9; refine (bytes9_no _ _ _ _ _ _ hn).mono ?_; rintro e w' ⟨rfl, rfl⟩)
  go_ret
  exact ⟨rfl, Below.refl _ _⟩

set_option maxHeartbeats 2000000 in
theorem inv_main (U : Nat) (c : Int) (a : Option Addr) (cap : Nat) (l : List UInt8) (w : World) (hu1 : U ≤ 65535) (hc0 : 0 ≤ c) (hc1 : c ≤ 255) (hr : Row w a l) (hn : l.length ≤ 1048576) :
    Calls Tryd.prog 4 #[.int .u16 (U : Int), .int .u8 c, .slice a l.length cap] w fun e w' => e = .returned (.bool true) ∧ Below w.heap.size w w' := by
  obtain ⟨i0, hi, hz0, hz1, hz2⟩ := info_parts Tryd.info5
  go_enter Tryd.func4, Tryd.ntmps4
  go_wp2_with (go_at_call 9; refine (bytes9_yes _ _ _ _ _ _ hn).mono ?_; rintro e w' ⟨rfl, rfl⟩)
  go_wp2_with fail
  refine (clone_any _ _ _ _ hr hn).mono ?_
  rintro e w1 ⟨a1, cap1, rfl, -, hr1, hb1⟩
  clear hr
  go_wp2_with (at_make; refine wpList_make_full _ rfl _ _ 22 rfl w1.heap.size 5 i0 (.int .u8 0) 1 Tryd.underlying22 hi hz0 hz1 .i64 .i64 _ _ (6 + l.length) rfl rfl (by omega) (by omega) ?c2 ?c3 ?c4 ?_)
  case c2 => rw [hz2]; omega
  case c3 => unfold maxLen; omega
  case c4 => omega
  intro W hown hgrow
  rw [show (madeCells #[Value.int .u8 0] (6 + l.length)).toList = List.replicate (6 + l.length) (.int .u8 0) from toList_madeCells_one _ _] at hown
  have hbW := (Below.refl w1.heap.size w1).grown hgrow (Nat.le_refl _) (fun k h => by cases h)
  have hcell : ∀ j, j < 6 → W.cell? ⟨w1.heap.size, j, none⟩ = some (.int .u8 0) := fun j hj => by
    rw [hown.cellAt j (by omega)]
    simp [show j < 6 + l.length by omega]
  have x0 := hcell 0 (by omega)
  have x1 := hcell 1 (by omega)
  have x2 := hcell 2 (by omega)
  have x3 := hcell 3 (by omega)
  have x4 := hcell 4 (by omega)
  have x5 := hcell 5 (by omega)
  have y0 := hown.frozenAt 0
  have y1 := hown.frozenAt 1
  have y2 := hown.frozenAt 2
  have y3 := hown.frozenAt 3
  have y4 := hown.frozenAt 4
  have y5 := hown.frozenAt 5
  clear hgrow hcell
  have HO : Hid (W.ownsRow w1.heap.size 5 1 (.slice (some ⟨w1.heap.size, 0, none⟩) (6 + l.length) (6 + l.length)) (6 + l.length) (List.replicate (6 + l.length) (.int .u8 0))) := hown
  clear hown
  go_wp2_with fail
  refine (hexChar_ex _ (U / 4096 % 16) _ _ (by omega) (by omega)).mono ?_
  rintro e w2 ⟨h0, rfl, H0, rfl⟩
  go_wp2_with fail
  refine (hexChar_ex _ (U / 256 % 16) _ _ (by omega) (by omega)).mono ?_
  rintro e w2 ⟨h1, rfl, H1, rfl⟩
  go_wp2_with fail
  refine (hexChar_ex _ (U / 16 % 16) _ _ (by omega) (by omega)).mono ?_
  rintro e w2 ⟨h2, rfl, H2, rfl⟩
  go_wp2_with fail
  refine (hexChar_ex _ (U % 16) _ _ (by omega) (by omega)).mono ?_
  rintro e w2 ⟨h3, rfl, H3, rfl⟩
  go_wp2_with fail
  obtain ⟨ys, ho, ht, hbV⟩ := six HO.out (Nat.le_refl _) hbW (by simp) (.int .u8 92) (.int .u8 117) (.int .u8 (h0.toNat : Int)) (.int .u8 (h1.toNat : Int)) (.int .u8 (h2.toNat : Int)) (.int .u8 (h3.toNat : Int))
  have HT : Hid (ys.take 6 = [.int .u8 92, .int .u8 117, .int .u8 (h0.toNat : Int), .int .u8 (h1.toNat : Int), .int .u8 (h2.toNat : Int), .int .u8 (h3.toNat : Int)]) := ht
  clear ht x0 x1 x2 x3 x4 x5 y0 y1 y2 y3 y4 y5 HO hbW
  generalize ((((((W.setCell ⟨w1.heap.size, 0, none⟩ (.int .u8 92)).setCell ⟨w1.heap.size, 1, none⟩ (.int .u8 117)).setCell ⟨w1.heap.size, 2, none⟩ (.int .u8 (h0.toNat : Int))).setCell ⟨w1.heap.size, 3, none⟩ (.int .u8 (h1.toNat : Int))).setCell ⟨w1.heap.size, 4, none⟩ (.int .u8 (h2.toNat : Int))).setCell ⟨w1.heap.size, 5, none⟩ (.int .u8 (h3.toNat : Int))) = V at *
  go_loopw [8] (fun i wr => ∃ (k : Nat) (ys : List Value), k ≤ l.length ∧ i = .int .i64 k ∧ wr.ownsRow w1.heap.size 5 1 (.slice (some ⟨w1.heap.size, 0, none⟩) (6 + l.length) (6 + l.length)) (6 + l.length) ys ∧ Hid (ys.take 6 = [.int .u8 92, .int .u8 117, .int .u8 (h0.toNat : Int), .int .u8 (h1.toNat : Int), .int .u8 (h2.toNat : Int), .int .u8 (h3.toNat : Int)]) ∧ Below w1.heap.size w1 wr)
    (fun i _ => l.length - (intOf i).toNat)
  case atStart => exact ⟨0, ys, Nat.zero_le _, rfl, ho, HT, hbV⟩
  case round =>
    clear ho HT hbV
    obtain ⟨k, zs, hk, rfl, ho, HT, hb⟩ := hrel
    by_cases hlt : k < l.length
    · obtain ⟨g, off, rfl, hbs, hc⟩ : ∃ b off, a1 = some (⟨b, off, none⟩ : Addr) ∧ b < w1.heap.size ∧ ∀ i, i < l.length → w1.cell? ⟨b, off + i, none⟩ = some (.int .u8 ((l.getD i 0).toNat : Int)) := by
        rcases hr1 with h | h
        · subst h; simp at hlt
        · exact h
      have c1 : wr.cell? ⟨g, off + k, none⟩ = some (.int .u8 ((l.getD k 0).toNat : Int)) := by rw [hb.cell (p := ⟨g, off + k, none⟩) hbs]; exact hc k hlt
      obtain ⟨v, hv⟩ : ∃ v, zs[6 + k]? = some v := ⟨_, List.getElem?_eq_getElem (by have := ho.1; omega)⟩
      have c2 : wr.cell? ⟨w1.heap.size, 6 + k, none⟩ = some v := by rw [ho.cellAt (6 + k) (by omega)]; exact hv
      have c3 : wr.frozen? ⟨w1.heap.size, 6 + k, none⟩ = false := ho.frozenAt (6 + k)
      have hs := ho.stored (6 + k) (.int .u8 ((l.getD k 0).toNat : Int))
      have HT2 : Hid ((zs.set (6 + k) (.int .u8 ((l.getD k 0).toNat : Int))).take 6 = [.int .u8 92, .int .u8 117, .int .u8 (h0.toNat : Int), .int .u8 (h1.toNat : Int), .int .u8 (h2.toNat : Int), .int .u8 (h3.toNat : Int)]) := by
        show _ = _
        rw [take_six _ _ _ (by omega)]
        exact HT.out
      have hb' := hb.grown hs.2 hb.size (fun q e => by cases e; exact Nat.le_refl _)
      have hs1 := hs.1
      generalize (l.getD k 0).toNat = z at *
      clear hc hr1 hs ho hv HT hb
      go_wp2_with fail
      go_roundw
      case rel => exact ⟨k + 1, _, by omega, by go_num, hs1, HT2, hb'⟩
      case measure => simp [intOf]; omega
    · obtain rfl : k = l.length := by omega
      have hcell := fun j hj => head_cell ho (by omega) HT.out j hj
      have hE := esc_ok w1.heap.size 0 (6 + l.length) (6 + l.length) [h0, h1, h2, h3] U wr (by omega) (Nat.le_refl _) (hcell 0 (by omega)) (hcell 1 (by omega)) rfl
        (fun j hj => by
          have := hcell (2 + j) (by simp at hj; omega)
          rw [Nat.zero_add, this]
          match j, hj with
          | 0, _ => rfl
          | 1, _ => rfl
          | 2, _ => rfl
          | 3, _ => rfl
          | j + 4, hj => simp at hj; omega)
        (by rw [hexP4 _ _ _ _ _ _ _ _ H0.out H1.out H2.out H3.out]; congr 1; omega) hu1
      have hZ := zz_of _ _ _ _ _ _ hE
      clear hE hcell ho HT hr1
      go_wp2_with fail
      refine hZ.mono ?_
      rintro e w3 ⟨rfl, hb3⟩
      clear hZ
      go_wp2_with fail
      go_ret
      exact ⟨by simp, (hb1.trans (hb.mono hb1.size)).trans (hb3.mono (by have := hb1.size; have := hb.size; omega))⟩
end Go.Proofs.Qxb6604126aDoor
