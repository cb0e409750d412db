/-
  THE WALKS (3): the copy of a row of bytes; hexChar; ZZunicodeEscape.
-/
import Derived.Test.Qxb6604126aDoorEscape
namespace Go.Proofs.Qxb6604126aDoor
open Go.RowKit
set_option linter.unusedVariables false

/-- THE ROW OF BYTES AT a: the list l. -/
def Row (w : World) (a : Option Addr) (l : List UInt8) : Prop :=
  l = [] ∨ ∃ b off, a = some ⟨b, off, none⟩ ∧ b < w.heap.size ∧ ∀ i, i < l.length → w.cell? ⟨b, off + i, none⟩ = some (.int .u8 ((l.getD i 0).toNat : Int))

theorem Row.below {w w' : World} {a : Option Addr} {l : List UInt8} (h : Row w a l) (hb : Below w.heap.size w w') : Row w' a l := by
  rcases h with h | ⟨b, off, ha, hlt, hc⟩
  · exact .inl h
  · exact .inr ⟨b, off, ha, by have := hb.size; omega, fun i hi => by rw [hb.cell (p := ⟨b, off + i, none⟩) hlt]; exact hc i hi⟩

def bcells (l : List UInt8) : List Value := l.map fun b => Value.int .u8 (b.toNat : Int)
def upTo (l : List UInt8) (k : Nat) : List Value := bcells (l.take k) ++ List.replicate (l.length - k) (.int .u8 0)

theorem upTo_zero (l : List UInt8) : upTo l 0 = List.replicate l.length (.int .u8 0) := by simp [upTo, bcells]
theorem upTo_all (l : List UInt8) : upTo l l.length = bcells l := by simp [upTo]
theorem upTo_set (l : List UInt8) (k : Nat) (h : k < l.length) : (upTo l k).set k (.int .u8 ((l.getD k 0).toNat : Int)) = upTo l (k + 1) := by
  have e1 : (bcells (l.take k)).length = k := by simp [bcells]; omega
  unfold upTo
  rw [List.set_append_right _ _ (by omega), e1, Nat.sub_self]
  obtain ⟨m, hm⟩ : ∃ m, l.length - k = m + 1 := ⟨l.length - k - 1, by omega⟩
  have hm' : l.length - (k + 1) = m := by omega
  have e2 : ∀ (p : List UInt8) (c : UInt8), bcells (p ++ [c]) = bcells p ++ [.int .u8 (c.toNat : Int)] := fun p c => by simp [bcells]
  have e3 : l.getD k 0 = l[k] := by simp [h]
  rw [hm, hm', List.replicate_succ, List.set_cons_zero, List.take_succ_eq_append_getElem h, e2, e3, List.append_assoc]
  rfl
theorem upTo_at (l : List UInt8) (k : Nat) (h : k < l.length) : (upTo l k)[k]? = some (.int .u8 0) := by
  have e1 : (bcells (l.take k)).length = k := by simp [bcells]; omega
  unfold upTo
  rw [List.getElem?_append_right (by omega), e1, Nat.sub_self]
  obtain ⟨m, hm⟩ : ∃ m, l.length - k = m + 1 := ⟨l.length - k - 1, by omega⟩
  rw [hm, List.replicate_succ]
  rfl

theorem Tryd.info5 : (Tryd.prog.info? 5).map (fun i => (i.zero, i.size, i.bytes)) = some (some (.int .u8 0), 1, 1) := by kernel_rfl

theorem row_of_owns {w : World} {B g n cap : Nat} {l : List UInt8} (h : w.ownsRow B 5 1 (.slice (some ⟨g, 0, none⟩) n cap) n (bcells l)) : Row w (some ⟨g, 0, none⟩) l := by
  have hl : l.length = n := by have := h.1; simp [bcells] at this; exact this
  refine .inr ⟨g, 0, rfl, ?_, fun i hi => ?_⟩
  · rcases h.2 with ⟨h', _⟩ | ⟨g', cap', cur, h', _, hg, _⟩
    · simp at h'
    · simp only [Value.slice.injEq, Option.some.injEq, Addr.mk.injEq, and_true, true_and] at h'
      rw [h'.1]
      exact (Array.getElem?_eq_some_iff.1 hg).1
  · rw [Nat.zero_add, h.cellAt i (by omega)]
    simp [bcells, hi]

set_option maxHeartbeats 400000 in
/-- cloneBytes: the same bytes in memory of the call's own. -/
theorem clone_any (a : Option Addr) (cap : Nat) (l : List UInt8) (w : World) (hr : Row w a l) (hn : l.length ≤ 1048576) :
    Calls Tryd.prog 6 #[.slice a l.length cap] w fun e w' => ∃ a' cap', e = .returned (.slice a' l.length cap') ∧ l.length ≤ cap' ∧ Row w' a' l ∧ Below w.heap.size w w' := by
  obtain ⟨i0, hi, hz0, hz1, hz2⟩ := info_parts Tryd.info5
  have hnil := fun (w : World) (a : Option Addr) (n c : Nat) => Lib.run_eql_slice_nil (P := Tryd.prog) w 22 5 a n c 0 0 Tryd.underlying22
  cases a with
  | none =>
    have hl : l = [] := by
      rcases hr with h | ⟨b, off, h, _⟩
      · exact h
      · cases h
    subst hl
    go_enter Tryd.func6, Tryd.ntmps6
    go_wp2
    go_ret
    exact ⟨none, 0, rfl, Nat.le_refl _, .inl rfl, Below.refl _ _⟩
  | some x =>
    go_enter Tryd.func6, Tryd.ntmps6
    go_wp2_with (at_make; refine wpList_make_full _ rfl _ _ 22 rfl w.heap.size 5 i0 (.int .u8 0) 1 Tryd.underlying22 hi hz0 hz1 .i64 .i64 _ _ l.length rfl rfl rfl rfl ?c2 ?c3 ?c4 ?_)
    case c2 => rw [hz2]; omega
    case c3 => unfold maxLen; omega
    case c4 => omega
    intro w1 hown hgrow
    rw [show (madeCells #[Value.int .u8 0] l.length).toList = upTo l 0 from by rw [upTo_zero]; exact toList_madeCells_one _ _] at hown
    go_wp2
    go_loopw [4] (fun i wr => ∃ k : Nat, k ≤ l.length ∧ i = .int .i64 k ∧ wr.ownsRow w.heap.size 5 1 (.slice (some ⟨w.heap.size, 0, none⟩) l.length l.length) l.length (upTo l k) ∧ Below w.heap.size w wr)
      (fun i _ => l.length - (intOf i).toNat)
    case atStart => exact ⟨0, Nat.zero_le _, rfl, hown, (Below.refl _ _).grown hgrow (Nat.le_refl _) (fun k h => by cases h)⟩
    case round =>
      obtain ⟨k, hk, rfl, ho, hb⟩ := hrel
      by_cases hlt : k < l.length
      · obtain ⟨b, off, hx, hbs, hc⟩ : ∃ b off, some x = some (⟨b, off, none⟩ : Addr) ∧ b < w.heap.size ∧ ∀ i, i < l.length → w.cell? ⟨b, off + i, none⟩ = some (.int .u8 ((l.getD i 0).toNat : Int)) := by
          rcases hr with h | h
          · subst h; simp at hlt
          · exact h
        obtain rfl := Option.some.inj hx
        have c1 : wr.cell? ⟨b, off + k, none⟩ = some (.int .u8 ((l.getD k 0).toNat : Int)) := by rw [hb.cell (p := ⟨b, off + k, none⟩) hbs]; exact hc k hlt
        have c2 : wr.cell? ⟨w.heap.size, k, none⟩ = some (.int .u8 0) := by rw [ho.cellAt k (by omega)]; exact upTo_at l k hlt
        have c3 : wr.frozen? ⟨w.heap.size, k, none⟩ = false := ho.frozenAt k
        have hs := ho.stored k (.int .u8 ((l.getD k 0).toNat : Int))
        rw [upTo_set l k hlt] at hs
        have hb' := hb.grown hs.2 hb.size (fun q e => by cases e; exact Nat.le_refl _)
        have hs1 := hs.1
        generalize (l.getD k 0).toNat = z at *
        clear hc hr hown hgrow hs
        go_wp2
        go_roundw
        case rel => exact ⟨k + 1, by omega, by go_num, hs1, hb'⟩
        case measure => simp [intOf]; omega
      · have hke : k = l.length := by omega
        subst hke
        rw [upTo_all] at ho
        go_wp2
        go_ret
        exact ⟨_, _, rfl, Nat.le_refl _, row_of_owns ho, hb⟩

theorem zz_of (a : Option Addr) (n cap : Nat) (x : Int) (r : Bool) (w : World) (h : Calls Tryd.prog 11 #[.slice a n cap] w fun e w' => e = .returned (.tuple #[.int .i32 x, .bool r]) ∧ Below w.heap.size w w') :
    Calls Tryd.prog 7 #[.slice a n cap] w fun e w' => e = .returned (.tuple #[.int .i32 x, .bool r]) ∧ Below w.heap.size w w' := by
  go_enter Tryd.func7, Tryd.ntmps7
  go_wp2_with fail
  refine h.mono ?_
  rintro e w1 ⟨rfl, hb⟩
  clear h
  go_wp2_with fail
  go_ret2
  exact ⟨rfl, hb⟩

/-- hexChar. -/
def hexC (n : Nat) (u : Bool) : UInt8 := if n < 10 then UInt8.ofNat (48 + n) else if u then UInt8.ofNat (55 + n) else UInt8.ofNat (87 + n)
theorem hexC_all : ∀ (n : Fin 16) (u : Bool), Pl.hexV (hexC n.val u) = some n.val := by decide +kernel
theorem hexC_hexV (n : Nat) (h : n < 16) (u : Bool) : Pl.hexV (hexC n u) = some n := hexC_all ⟨n, h⟩ u
theorem hexC_toNat (n : Nat) (h : n < 16) (u : Bool) : ((hexC n u).toNat : Int) = if n < 10 then 48 + (n : Int) else if u then 55 + (n : Int) else 87 + (n : Int) := by
  have : ∀ (n : Fin 16) (u : Bool), ((hexC n.val u).toNat : Int) = if n.val < 10 then 48 + (n.val : Int) else if u then 55 + (n.val : Int) else 87 + (n.val : Int) := by decide +kernel
  exact this ⟨n, h⟩ u

theorem hexChar_any (x : Int) (n : Nat) (u : Bool) (w : World) (hx : x = (n : Int)) (hn : n < 16) :
    Calls Tryd.prog 10 #[.int .u8 x, .bool u] w fun e w' => e = .returned (.int .u8 ((hexC n u).toNat : Int)) ∧ w' = w := by
  rw [hexC_toNat n hn u]
  subst hx
  by_cases h : n < 10
  · rw [if_pos h]
    go_enter Tryd.func10, Tryd.ntmps10
    go_wp2
    go_ret
    exact ⟨rfl, rfl⟩
  · rw [if_neg h]
    cases u
    · go_enter Tryd.func10, Tryd.ntmps10
      go_wp2
      go_ret
      exact ⟨by simp; omega, rfl⟩
    · go_enter Tryd.func10, Tryd.ntmps10
      go_wp2
      go_ret
      exact ⟨by simp; omega, rfl⟩
end Go.Proofs.Qxb6604126aDoor
