/-
  THE WALKS (2): strconv.ParseUint at base 16, 16 bits; unicodeEscape.
-/
import Derived.Test.Qxb6604126aDoorParse
import Derived.Test.Qxb6604126aDoorShelf
import Derived.Deep.QuietTactic
import Derived.BigQuiet
import Derived.Laws.IdiomStrings
import Derived.WalkLawsBesides
import Derived.Lib.IfaceEq
namespace Go.Proofs.Qxb6604126aDoor
open Go.RowKit
set_option linter.unusedVariables false

set_option maxHeartbeats 1000000 in
theorem pu_ok (t : ByteArray) (v : Nat) (hne : 0 < t.size) (hmax : t.size ≤ 4) (h : Pl.hexP 0 t.data.toList = some v) (w : World) :
    Calls Tryd.prog 13 #[.string t, .int .i64 16, .int .i64 16] w fun e w' => e = .returned (.tuple #[.int .u64 (v : Int), .nilIface]) ∧ Below w.heap.size w w' := by
  have h1 := parse16 t hne hmax w
  rw [h] at h1
  clear h
  unfold uintT at h1
  simp only at h1
  generalize (v : Int) = n at *
  go_enter Tryd.func13, Tryd.ntmps13
  go_wp2_with fail
  refine h1.mono ?_
  rintro e w1 ⟨rfl, hb⟩
  clear h1
  go_wp2_with fail
  go_ret2
  exact ⟨rfl, hb⟩

theorem comp38 : (Tryd.prog.info? 38).map (·.comparable) = some true := by kernel_rfl

set_option maxHeartbeats 1000000 in
/-- strconv.toError at the inner package's error for a bad digit: a new *NumError, as an error. -/
theorem toErr_any (fn s : ByteArray) (base bts : Int) (ev : Value) (w : World) (hlim : s.size ≤ 281474976710656) (hv : w.cell? ⟨0, 0, none⟩ = some ev) (hev : ev = .nilIface ∨ ∃ te pe, ev = .iface te pe) :
    Calls Tryd.prog 15 #[.string fn, .string s, .int .i64 base, .int .i64 bts, .iface 38 (.int .i64 2)] w fun e w' => (∃ N, e = .returned (.iface 41 (.pointer (some ⟨N, 0, none⟩)))) ∧ Below w.heap.size w w' := by
  have heq : ∀ W, (binOp .eql 34 (.iface 38 (.int .i64 2)) (.iface 38 (.int .i64 2))).run Tryd.prog W = .ok (.bool true) W := fun W => Lib.run_eql_iface_int W 2 2 Tryd.underlying34 comp38 Tryd.underlying38
  have h18 := Tryd.strconv_syntaxError fn s ev w hlim hv hev
  clear hv hev
  go_enter Tryd.func15, Tryd.ntmps15
  go_wp2_with fail
  refine h18.mono ?_
  rintro e w2 ⟨N, rfl, -, -, hb⟩
  clear h18
  go_wp2_with fail
  go_ret
  exact ⟨⟨N, rfl⟩, hb⟩

set_option maxHeartbeats 1000000 in
theorem pu_bad (t : ByteArray) (ev : Value) (hne : 0 < t.size) (hmax : t.size ≤ 4) (h : Pl.hexP 0 t.data.toList = none) (w : World) (hv : w.cell? ⟨0, 0, none⟩ = some ev) (hev : ev = .nilIface ∨ ∃ te pe, ev = .iface te pe) :
    Calls Tryd.prog 13 #[.string t, .int .i64 16, .int .i64 16] w fun e w' => (∃ N, e = .returned (.tuple #[.int .u64 0, .iface 41 (.pointer (some ⟨N, 0, none⟩))])) ∧ Below w.heap.size w w' := by
  have h1 := parse16 t hne hmax w
  rw [h] at h1
  clear h
  unfold uintT at h1
  simp only at h1
  have h0 : 0 < w.heap.size := by
    rcases Nat.eq_zero_or_pos w.heap.size with h' | h'
    · simp [World.cell?, Array.getElem?_eq_none (show w.heap.size ≤ 0 by omega)] at hv
    · exact h'
  go_enter Tryd.func13, Tryd.ntmps13
  go_wp2_with fail
  refine h1.mono ?_
  rintro e w1 ⟨rfl, hb⟩
  clear h1
  have hv1 : w1.cell? ⟨0, 0, none⟩ = some ev := by rw [hb.cell (p := ⟨0, 0, none⟩) h0]; exact hv
  go_wp2_with fail
  refine (toErr_any _ t _ _ ev _ (by omega) hv1 hev).mono ?_
  rintro e w2 ⟨⟨N, rfl⟩, hb2⟩
  go_wp2_with fail
  go_ret2
  exact ⟨⟨N, rfl⟩, hb.trans (hb2.mono hb.size)⟩

theorem esc_short (a : Option Addr) (n cap : Nat) (w : World) (hn : n < 6) :
    Calls Tryd.prog 11 #[.slice a n cap] w fun e w' => e = .returned (.tuple #[.int .i32 0, .bool false]) ∧ w' = w := by
  go_enter Tryd.func11, Tryd.ntmps11
  go_wp2
  go_ret2
  exact ⟨rfl, rfl⟩
theorem esc_head0 (b off n cap : Nat) (x : Int) (w : World) (hn : 6 ≤ n) (h0 : w.cell? ⟨b, off, none⟩ = some (.int .u8 x)) (hx : (x != 92) = true) :
    Calls Tryd.prog 11 #[.slice (some ⟨b, off, none⟩) n cap] w fun e w' => e = .returned (.tuple #[.int .i32 0, .bool false]) ∧ w' = w := by
  go_enter Tryd.func11, Tryd.ntmps11
  go_wp2
  go_ret2
  exact ⟨rfl, rfl⟩
theorem esc_head1 (b off n cap : Nat) (y : Int) (w : World) (hn : 6 ≤ n) (h0 : w.cell? ⟨b, off, none⟩ = some (.int .u8 92)) (h1 : w.cell? ⟨b, off + 1, none⟩ = some (.int .u8 y)) (hy : (y != 117) = true) :
    Calls Tryd.prog 11 #[.slice (some ⟨b, off, none⟩) n cap] w fun e w' => e = .returned (.tuple #[.int .i32 0, .bool false]) ∧ w' = w := by
  go_enter Tryd.func11, Tryd.ntmps11
  go_wp2
  go_ret2
  exact ⟨rfl, rfl⟩

set_option maxHeartbeats 1000000 in
theorem esc_ok (b off n cap : Nat) (l : List UInt8) (v : Nat) (w : World) (hn : 6 ≤ n) (hnc : n ≤ cap) (h0 : w.cell? ⟨b, off, none⟩ = some (.int .u8 92)) (h1 : w.cell? ⟨b, off + 1, none⟩ = some (.int .u8 117))
    (hl : l.length = 4) (hc : ∀ j (hj : j < l.length), w.cell? ⟨b, off + 2 + j, none⟩ = some (.int .u8 (l[j].toNat : Int))) (hp : Pl.hexP 0 l = some v) (hv : v ≤ 65535) :
    Calls Tryd.prog 11 #[.slice (some ⟨b, off, none⟩) n cap] w fun e w' => e = .returned (.tuple #[.int .i32 (v : Int), .bool true]) ∧ Below w.heap.size w w' := by
  have hcv := run_convert_bytes_back (P := Tryd.prog) w 22 9 5 ⟨b, off + 2, none⟩ (cap - 2) l Tryd.underlying22 Tryd.underlying5 Tryd.underlying9 (fun j hj => by rw [Addr.add_lit]; exact hc j hj)
  rw [hl] at hcv
  have h3 := pu_ok ⟨l.toArray⟩ v (by simp [ByteArray.size, hl]) (by simp [ByteArray.size, hl]) hp w
  have hv0 : 0 ≤ (v : Int) := by omega
  have hv1 : (v : Int) ≤ 65535 := by omega
  clear hc hp hv hl
  generalize (v : Int) = x at *
  generalize (⟨l.toArray⟩ : ByteArray) = s at *
  go_enter Tryd.func11, Tryd.ntmps11
  go_wp2_with fail
  refine h3.mono ?_
  rintro e w1 ⟨rfl, hb⟩
  clear h3 hcv h0 h1
  go_wp2_with fail
  go_quiet (fail)
  go_wp2_with fail
  go_ret2
  exact ⟨rfl, below_drewN hb _⟩

set_option maxHeartbeats 1000000 in
theorem esc_bad (b off n cap : Nat) (l : List UInt8) (ev : Value) (w : World) (hn : 6 ≤ n) (hnc : n ≤ cap) (h0 : w.cell? ⟨b, off, none⟩ = some (.int .u8 92)) (h1 : w.cell? ⟨b, off + 1, none⟩ = some (.int .u8 117))
    (hl : l.length = 4) (hc : ∀ j (hj : j < l.length), w.cell? ⟨b, off + 2 + j, none⟩ = some (.int .u8 (l[j].toNat : Int))) (hp : Pl.hexP 0 l = none) (hv : w.cell? ⟨0, 0, none⟩ = some ev) (hev : ev = .nilIface ∨ ∃ te pe, ev = .iface te pe) :
    Calls Tryd.prog 11 #[.slice (some ⟨b, off, none⟩) n cap] w fun e w' => e = .returned (.tuple #[.int .i32 0, .bool false]) ∧ Below w.heap.size w w' := by
  have hcv := run_convert_bytes_back (P := Tryd.prog) w 22 9 5 ⟨b, off + 2, none⟩ (cap - 2) l Tryd.underlying22 Tryd.underlying5 Tryd.underlying9 (fun j hj => by rw [Addr.add_lit]; exact hc j hj)
  rw [hl] at hcv
  have h3 := pu_bad ⟨l.toArray⟩ ev (by simp [ByteArray.size, hl]) (by simp [ByteArray.size, hl]) hp w hv hev
  clear hc hp hv hl hev
  generalize (⟨l.toArray⟩ : ByteArray) = s at *
  go_enter Tryd.func11, Tryd.ntmps11
  go_wp2_with fail
  refine h3.mono ?_
  rintro e w1 ⟨⟨N, rfl⟩, hb⟩
  clear h3 hcv h0 h1
  go_wp2_with fail
  go_quiet (fail)
  go_wp2_with fail
  go_ret2
  exact ⟨rfl, below_drewN hb _⟩
end Go.Proofs.Qxb6604126aDoor
