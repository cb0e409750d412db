/-
  THE WALKS (1): white space, the size guards, the copy of a row of bytes.
-/
import Derived.Test.Qxb6002697aProg
import Derived.Test.Qxb6002697aPlain
import Derived.WalkKit
import Derived.WalkSpells
namespace Go.Proofs.Qxb6002697a
open Go.RowKit
set_option linter.unusedVariables false

theorem byte_eq (c k : UInt8) : (c == k) = ((c.toNat : Int) == (k.toNat : Int)) := by
  rw [Bool.eq_iff_iff]
  simp only [beq_iff_eq]
  constructor
  · rintro rfl; rfl
  · intro h; exact UInt8.toNat_inj.1 (by omega)

theorem isWS_int (c : UInt8) : Pl.isWS c = (((c.toNat : Int) == 32) || ((c.toNat : Int) == 9) || ((c.toNat : Int) == 10) || ((c.toNat : Int) == 13)) := by
  unfold Pl.isWS
  rw [byte_eq c 32, byte_eq c 9, byte_eq c 10, byte_eq c 13]
  rfl

theorem isSpace_any (c : UInt8) (w : World) :
    Calls Try.prog 30 #[.int .u8 (c.toNat : Int)] w fun e w' => e = .returned (.bool (Pl.isWS c)) ∧ w' = w := by
  rw [isWS_int]
  generalize (c.toNat : Int) = n
  go_enter Try.func30, Try.ntmps30
  go_wp2
  all_goals (go_ret; exact ⟨by simp [*], rfl⟩)

theorem zzIsWS_any (c : UInt8) (w : World) :
    Calls Try.prog 24 #[.int .u8 (c.toNat : Int)] w fun e w' => e = .returned (.bool (Pl.isWS c)) ∧ w' = w := by
  rw [isWS_int]
  generalize (c.toNat : Int) = n
  go_enter Try.func24, Try.ntmps24
  go_wp2
  all_goals (go_ret; exact ⟨by simp [*], rfl⟩)

/-- THE ROW OF BYTES AT a: the list l. -/
def Row (w : World) (a : Option Addr) (l : List UInt8) : Prop :=
  l = [] ∨ ∃ b off, a = some ⟨b, off, none⟩ ∧ b < w.heap.size ∧ ∀ i, i < l.length → w.cell? ⟨b, off + i, none⟩ = some (.int .u8 ((l.getD i 0).toNat : Int))

theorem Row.below {w w' : World} {a : Option Addr} {l : List UInt8} (h : Row w a l) (hb : Below w.heap.size w w') : Row w' a l := by
  rcases h with h | ⟨b, off, ha, hlt, hc⟩
  · exact .inl h
  · exact .inr ⟨b, off, ha, by have := hb.size; omega, fun i hi => by rw [hb.cell (p := ⟨b, off + i, none⟩) hlt]; exact hc i hi⟩

def bcells (l : List UInt8) : List Value := l.map fun b => Value.int .u8 (b.toNat : Int)
def upTo (l : List UInt8) (k : Nat) : List Value := bcells (l.take k) ++ List.replicate (l.length - k) (.int .u8 0)

theorem upTo_zero (l : List UInt8) : upTo l 0 = List.replicate l.length (.int .u8 0) := by simp [upTo, bcells]
theorem upTo_all (l : List UInt8) : upTo l l.length = bcells l := by simp [upTo]
theorem upTo_set (l : List UInt8) (k : Nat) (h : k < l.length) : (upTo l k).set k (.int .u8 ((l.getD k 0).toNat : Int)) = upTo l (k + 1) := by
  have e1 : (bcells (l.take k)).length = k := by simp [bcells]; omega
  unfold upTo
  rw [List.set_append_right _ _ (by omega), e1, Nat.sub_self]
  obtain ⟨m, hm⟩ : ∃ m, l.length - k = m + 1 := ⟨l.length - k - 1, by omega⟩
  have hm' : l.length - (k + 1) = m := by omega
  have e2 : ∀ (p : List UInt8) (c : UInt8), bcells (p ++ [c]) = bcells p ++ [.int .u8 (c.toNat : Int)] := fun p c => by simp [bcells]
  have e3 : l.getD k 0 = l[k] := by simp [h]
  rw [hm, hm', List.replicate_succ, List.set_cons_zero, List.take_succ_eq_append_getElem h, e2, e3, List.append_assoc]
  rfl
theorem upTo_at (l : List UInt8) (k : Nat) (h : k < l.length) : (upTo l k)[k]? = some (.int .u8 0) := by
  have e1 : (bcells (l.take k)).length = k := by simp [bcells]; omega
  unfold upTo
  rw [List.getElem?_append_right (by omega), e1, Nat.sub_self]
  obtain ⟨m, hm⟩ : ∃ m, l.length - k = m + 1 := ⟨l.length - k - 1, by omega⟩
  rw [hm, List.replicate_succ]
  rfl

theorem Try.info5 : (Try.prog.info? 5).map (fun i => (i.zero, i.size, i.bytes)) = some (some (.int .u8 0), 1, 1) := by kernel_rfl

theorem row_of_owns {w : World} {B g n cap : Nat} {l : List UInt8} (h : w.ownsRow B 5 1 (.slice (some ⟨g, 0, none⟩) n cap) n (bcells l)) : Row w (some ⟨g, 0, none⟩) l := by
  have hl : l.length = n := by have := h.1; simp [bcells] at this; exact this
  refine .inr ⟨g, 0, rfl, ?_, fun i hi => ?_⟩
  · rcases h.2 with ⟨h', _⟩ | ⟨g', cap', cur, h', _, hg, _⟩
    · simp at h'
    · simp only [Value.slice.injEq, Option.some.injEq, Addr.mk.injEq, and_true, true_and] at h'
      rw [h'.1]
      exact (Array.getElem?_eq_some_iff.1 hg).1
  · rw [Nat.zero_add, h.cellAt i (by omega)]
    simp [bcells, hi]

set_option maxHeartbeats 400000 in
/-- zzCloneBytes: the same bytes in memory of the call's own. -/
theorem clone_any (a : Option Addr) (cap : Nat) (l : List UInt8) (w : World) (hr : Row w a l) (hn : l.length ≤ 1048576) :
    Calls Try.prog 21 #[.slice a l.length cap] w fun e w' => ∃ a' cap', e = .returned (.slice a' l.length cap') ∧ Row w' a' l ∧ Below w.heap.size w w' := by
  obtain ⟨i0, hi, hz0, hz1, hz2⟩ := info_parts Try.info5
  have hnil := fun (w : World) (a : Option Addr) (n c : Nat) => Lib.run_eql_slice_nil (P := Try.prog) w 31 5 a n c 0 0 Try.underlying31
  cases a with
  | none =>
    have hl : l = [] := by
      rcases hr with h | ⟨b, off, h, _⟩
      · exact h
      · cases h
    subst hl
    go_enter Try.func21, Try.ntmps21
    go_wp2
    go_ret
    exact ⟨none, 0, rfl, .inl rfl, Below.refl _ _⟩
  | some x =>
    go_enter Try.func21, Try.ntmps21
    go_wp2_with (at_make; refine wpList_make_full _ rfl _ _ 31 rfl w.heap.size 5 i0 (.int .u8 0) 1 Try.underlying31 hi hz0 hz1 .i64 .i64 _ _ l.length rfl rfl rfl rfl ?c2 ?c3 ?c4 ?_)
    case c2 => rw [hz2]; omega
    case c3 => unfold maxLen; omega
    case c4 => omega
    intro w1 hown hgrow
    rw [show (madeCells #[Value.int .u8 0] l.length).toList = upTo l 0 from by rw [upTo_zero]; exact toList_madeCells_one _ _] at hown
    go_wp2
    go_loopw [4] (fun i wr => ∃ k : Nat, k ≤ l.length ∧ i = .int .i64 k ∧ wr.ownsRow w.heap.size 5 1 (.slice (some ⟨w.heap.size, 0, none⟩) l.length l.length) l.length (upTo l k) ∧ Below w.heap.size w wr)
      (fun i _ => l.length - (intOf i).toNat)
    case atStart => exact ⟨0, Nat.zero_le _, rfl, hown, (Below.refl _ _).grown hgrow (Nat.le_refl _) (fun k h => by cases h)⟩
    case round =>
      obtain ⟨k, hk, rfl, ho, hb⟩ := hrel
      by_cases hlt : k < l.length
      · obtain ⟨b, off, hx, hbs, hc⟩ : ∃ b off, some x = some (⟨b, off, none⟩ : Addr) ∧ b < w.heap.size ∧ ∀ i, i < l.length → w.cell? ⟨b, off + i, none⟩ = some (.int .u8 ((l.getD i 0).toNat : Int)) := by
          rcases hr with h | h
          · subst h; simp at hlt
          · exact h
        obtain rfl := Option.some.inj hx
        have c1 : wr.cell? ⟨b, off + k, none⟩ = some (.int .u8 ((l.getD k 0).toNat : Int)) := by rw [hb.cell (p := ⟨b, off + k, none⟩) hbs]; exact hc k hlt
        have c2 : wr.cell? ⟨w.heap.size, k, none⟩ = some (.int .u8 0) := by rw [ho.cellAt k (by omega)]; exact upTo_at l k hlt
        have c3 : wr.frozen? ⟨w.heap.size, k, none⟩ = false := ho.frozenAt k
        have hs := ho.stored k (.int .u8 ((l.getD k 0).toNat : Int))
        rw [upTo_set l k hlt] at hs
        have hb' := hb.grown hs.2 hb.size (fun q e => by cases e; exact Nat.le_refl _)
        have hs1 := hs.1
        generalize (l.getD k 0).toNat = z at *
        clear hc hr hown hgrow hs
        go_wp2
        go_roundw
        case rel => exact ⟨k + 1, by omega, by go_num, hs1, hb'⟩
        case measure => simp [intOf]; omega
      · have hke : k = l.length := by omega
        subst hke
        rw [upTo_all] at ho
        go_wp2
        go_ret
        exact ⟨_, _, rfl, row_of_owns ho, hb⟩
end Go.Proofs.Qxb6002697a
