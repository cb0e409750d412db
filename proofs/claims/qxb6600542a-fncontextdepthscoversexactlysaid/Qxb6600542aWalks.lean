/-
  THE WALKS: the copy of a row of ints; slices.Index, slices.Contains; contextDepths; the law's two tests.
-/
import Derived.Test.Qxb6600542aProg
import Derived.WalkKit
import Derived.WalkSpells
namespace Go.Proofs.Qxb6600542a
open Go.RowKit
set_option linter.unusedVariables false

/-- THE ROW OF INTS AT a: the list l. -/
def Row (w : World) (a : Option Addr) (l : List Int) : Prop :=
  l = [] ∨ ∃ b off, a = some ⟨b, off, none⟩ ∧ b < w.heap.size ∧ ∀ i, i < l.length → w.cell? ⟨b, off + i, none⟩ = some (.int .i64 (l.getD i 0))

theorem Row.below {w w' : World} {a : Option Addr} {l : List Int} (h : Row w a l) (hb : Below w.heap.size w w') : Row w' a l := by
  rcases h with h | ⟨b, off, ha, hlt, hc⟩
  · exact .inl h
  · exact .inr ⟨b, off, ha, by have := hb.size; omega, fun i hi => by rw [hb.cell (p := ⟨b, off + i, none⟩) hlt]; exact hc i hi⟩

def icells (l : List Int) : List Value := l.map fun n => Value.int .i64 n
def upTo (l : List Int) (k : Nat) : List Value := icells (l.take k) ++ List.replicate (l.length - k) (.int .i64 0)

theorem upTo_zero (l : List Int) : upTo l 0 = List.replicate l.length (.int .i64 0) := by simp [upTo, icells]
theorem upTo_all (l : List Int) : upTo l l.length = icells l := by simp [upTo]
theorem upTo_set (l : List Int) (k : Nat) (h : k < l.length) : (upTo l k).set k (.int .i64 (l.getD k 0)) = upTo l (k + 1) := by
  have e1 : (icells (l.take k)).length = k := by simp [icells]; omega
  unfold upTo
  rw [List.set_append_right _ _ (by omega), e1, Nat.sub_self]
  obtain ⟨m, hm⟩ : ∃ m, l.length - k = m + 1 := ⟨l.length - k - 1, by omega⟩
  have hm' : l.length - (k + 1) = m := by omega
  have e2 : ∀ (p : List Int) (c : Int), icells (p ++ [c]) = icells p ++ [.int .i64 c] := fun p c => by simp [icells]
  have e3 : l.getD k 0 = l[k] := by simp [h]
  rw [hm, hm', List.replicate_succ, List.set_cons_zero, List.take_succ_eq_append_getElem h, e2, e3, List.append_assoc]
  rfl
theorem upTo_at (l : List Int) (k : Nat) (h : k < l.length) : (upTo l k)[k]? = some (.int .i64 0) := by
  have e1 : (icells (l.take k)).length = k := by simp [icells]; omega
  unfold upTo
  rw [List.getElem?_append_right (by omega), e1, Nat.sub_self]
  obtain ⟨m, hm⟩ : ∃ m, l.length - k = m + 1 := ⟨l.length - k - 1, by omega⟩
  rw [hm, List.replicate_succ]
  rfl

theorem Try.info35 : (Try.prog.info? 35).map (fun i => (i.zero, i.size, i.bytes)) = some (some (.int .i64 0), 1, 8) := by kernel_rfl

theorem row_of_owns {w : World} {B g n cap : Nat} {l : List Int} (h : w.ownsRow B 35 1 (.slice (some ⟨g, 0, none⟩) n cap) n (icells l)) : Row w (some ⟨g, 0, none⟩) l := by
  have hl : l.length = n := by have := h.1; simp [icells] at this; exact this
  refine .inr ⟨g, 0, rfl, ?_, fun i hi => ?_⟩
  · rcases h.2 with ⟨h', _⟩ | ⟨g', cap', cur, h', _, hg, _⟩
    · simp at h'
    · simp only [Value.slice.injEq, Option.some.injEq, Addr.mk.injEq, and_true, true_and] at h'
      rw [h'.1]
      exact (Array.getElem?_eq_some_iff.1 hg).1
  · rw [Nat.zero_add, h.cellAt i (by omega)]
    simp [icells, hi]

set_option maxHeartbeats 400000 in
/-- b1cdConvert: the same ints in memory of the call's own. -/
theorem convert_any (a : Option Addr) (cap : Nat) (l : List Int) (w : World) (hr : Row w a l) (hn : l.length ≤ 65536) :
    Calls Try.prog 18 #[.slice a l.length cap] w fun e w' => ∃ a' cap', e = .returned (.slice a' l.length cap') ∧ Row w' a' l ∧ Below w.heap.size w w' := by
  obtain ⟨i0, hi, hz0, hz1, hz2⟩ := info_parts Try.info35
  go_enter Try.func18, Try.ntmps18
  go_wp2_with (at_make; refine wpList_make_full _ rfl _ _ 29 rfl w.heap.size 35 i0 (.int .i64 0) 1 Try.underlying29 hi hz0 hz1 .i64 .i64 _ _ l.length rfl rfl rfl rfl ?c2 ?c3 ?c4 ?_)
  case c2 => rw [hz2]; omega
  case c3 => unfold maxLen; omega
  case c4 => omega
  intro w1 hown hgrow
  rw [show (madeCells #[Value.int .i64 0] l.length).toList = upTo l 0 from by rw [upTo_zero]; exact toList_madeCells_one _ _] at hown
  go_wp2
  go_loopw [4] (fun i wr => ∃ k : Nat, k ≤ l.length ∧ i = .int .i64 k ∧ wr.ownsRow w.heap.size 35 1 (.slice (some ⟨w.heap.size, 0, none⟩) l.length l.length) l.length (upTo l k) ∧ Below w.heap.size w wr)
    (fun i _ => l.length - (intOf i).toNat)
  case atStart => exact ⟨0, Nat.zero_le _, rfl, hown, (Below.refl _ _).grown hgrow (Nat.le_refl _) (fun k h => by cases h)⟩
  case round =>
    obtain ⟨k, hk, rfl, ho, hb⟩ := hrel
    by_cases hlt : k < l.length
    · obtain ⟨b, off, rfl, hbs, hc⟩ : ∃ b off, a = some (⟨b, off, none⟩ : Addr) ∧ b < w.heap.size ∧ ∀ i, i < l.length → w.cell? ⟨b, off + i, none⟩ = some (.int .i64 (l.getD i 0)) := by
        rcases hr with h | h
        · subst h; simp at hlt
        · exact h
      have c1 : wr.cell? ⟨b, off + k, none⟩ = some (.int .i64 (l.getD k 0)) := by rw [hb.cell (p := ⟨b, off + k, none⟩) hbs]; exact hc k hlt
      have c2 : wr.cell? ⟨w.heap.size, k, none⟩ = some (.int .i64 0) := by rw [ho.cellAt k (by omega)]; exact upTo_at l k hlt
      have c3 : wr.frozen? ⟨w.heap.size, k, none⟩ = false := ho.frozenAt k
      have hs := ho.stored k (.int .i64 (l.getD k 0))
      rw [upTo_set l k hlt] at hs
      have hb' := hb.grown hs.2 hb.size (fun q e => by cases e; exact Nat.le_refl _)
      have hs1 := hs.1
      generalize l.getD k 0 = z at *
      clear hc hr hown hgrow hs
      go_wp2
      go_roundw
      case rel => exact ⟨k + 1, by omega, by go_num, hs1, hb'⟩
      case measure => simp [intOf]; omega
    · have hke : k = l.length := by omega
      subst hke
      rw [upTo_all] at ho
      go_wp2
      go_ret
      exact ⟨_, _, rfl, row_of_owns ho, hb⟩

/-- Is x among l? -/
def hasI (x : Int) (l : List Int) : Bool := l.any fun y => x == y
theorem hasI_take (x : Int) (l : List Int) (k : Nat) (h : k < l.length) : hasI x (l.take (k + 1)) = (hasI x (l.take k) || x == l[k]) := by
  rw [List.take_succ_eq_append_getElem h]
  unfold hasI
  rw [List.any_append]
  simp
theorem hasI_hit (x : Int) (l : List Int) (k : Nat) (h : k < l.length) (he : (x == l[k]) = true) : hasI x l = true := by
  unfold hasI
  exact List.any_eq_true.2 ⟨l[k], List.getElem_mem _, he⟩

set_option maxHeartbeats 400000 in
/-- slices.Index: a place that is not negative just where x is there. -/
theorem index_any (a : Option Addr) (cap : Nat) (l : List Int) (x : Int) (w : World) (hr : Row w a l) (hn : l.length ≤ 65536) :
    Calls Try.prog 46 #[.slice a l.length cap, .int .i64 x] w fun e w' => (∃ r : Int, e = .returned (.int .i64 r) ∧ decide (0 ≤ r) = hasI x l) ∧ w' = w := by
  go_enter Try.func46, Try.ntmps46
  go_wp2
  go_loop [8] (fun i => ∃ k : Nat, k ≤ l.length ∧ i = .int .i64 k ∧ hasI x (l.take k) = false) (fun i => l.length - (intOf i).toNat)
  case atStart => exact ⟨0, Nat.zero_le _, rfl, rfl⟩
  case round =>
    obtain ⟨k, hk, rfl, hno⟩ := hrel
    by_cases hlt : k < l.length
    · obtain ⟨b, off, rfl, hbs, hc⟩ : ∃ b off, a = some (⟨b, off, none⟩ : Addr) ∧ b < w.heap.size ∧ ∀ i, i < l.length → w.cell? ⟨b, off + i, none⟩ = some (.int .i64 (l.getD i 0)) := by
        rcases hr with h | h
        · subst h; simp at hlt
        · exact h
      have c1 : w.cell? ⟨b, off + k, none⟩ = some (.int .i64 l[k]) := by have := hc k hlt; simpa [hlt] using this
      have HT := hasI_take x l k hlt
      have HH := hasI_hit x l k hlt
      rw [hno, Bool.false_or] at HT
      have HN : Hid (hasI x (l.take (k + 1)) = (x == l[k])) := HT
      have HX : Hid ((x == l[k]) = true → hasI x l = true) := HH
      clear HT HH hc hno
      generalize l[k] = z at *
      cases he : (x == z) with
      | true =>
        go_wp2
        go_ret
        exact ⟨⟨_, rfl, by rw [HX.out he]; simp⟩, rfl⟩
      | false =>
        have HN2 : Hid (hasI x (l.take (k + 1)) = false) := by show _ = _; rw [HN.out, he]
        go_wp2
        go_round
        case rel => exact ⟨k + 1, by omega, by go_num, HN2.out⟩
        case measure => simp [intOf]; omega
    · obtain rfl : k = l.length := by omega
      rw [List.take_length] at hno
      have HN : Hid (hasI x l = false) := hno
      clear hno
      go_wp2
      go_ret
      exact ⟨⟨_, rfl, by rw [HN.out]; rfl⟩, rfl⟩

/-- slices.Contains. -/
theorem contains_any (a : Option Addr) (cap : Nat) (l : List Int) (x : Int) (w : World) (hr : Row w a l) (hn : l.length ≤ 65536) :
    Calls Try.prog 38 #[.slice a l.length cap, .int .i64 x] w fun e w' => e = .returned (.bool (hasI x l)) ∧ w' = w := by
  go_enter Try.func38, Try.ntmps38
  go_wp2_with fail
  refine (index_any _ _ _ _ _ hr hn).mono ?_
  rintro e w1 ⟨⟨r, rfl, hr1⟩, rfl⟩
  have HR : Hid (decide (0 ≤ r) = hasI x l) := hr1
  clear hr1
  go_wp2_with fail
  go_ret
  exact ⟨by rw [← HR.out]; rfl, rfl⟩
end Go.Proofs.Qxb6600542a
