/-
  THE PLAIN PART: a string and its one trailing slash; no Go in sight.
-/
import Derived.WalkKit
import Derived.WalkSpells
import Derived.WideShapes
import Derived.Lib.IndexBytes
namespace Go.Proofs.Qxb6601061a

theorem bytes_eq {a b : ByteArray} (h : a.data.toList = b.data.toList) : a = b := Go.WideShapes.bytes_inj h
theorem beq_bytes (a b : ByteArray) : (a.toList == b.toList) = decide (a = b) := by
  rw [ByteArray.toList_eq, ByteArray.toList_eq, Bool.eq_iff_iff, beq_iff_eq, decide_eq_true_iff]
  exact ⟨bytes_eq, fun h => by rw [h]⟩
theorem app_list (a b : ByteArray) : (a ++ b).data.toList = a.data.toList ++ b.data.toList := by
  rw [ByteArray.data_append, Array.toList_append]

/-- s is t with one slash more at its end. -/
def Plus (s t : ByteArray) : Prop := s = t ++ ⟨#[47]⟩
def Ends (s : ByteArray) : Prop := ∃ t, Plus s t
/-- strings.TrimSuffix(s, slash) is t. -/
def Trim (s t : ByteArray) : Prop := Plus s t ∨ (t = s ∧ ¬ Ends s)

theorem Plus.list {s t : ByteArray} (h : Plus s t) : s.data.toList = t.data.toList ++ [47] := by
  unfold Plus at h
  rw [h, app_list]
theorem plus_of {s t : ByteArray} (h : s.data.toList = t.data.toList ++ [47]) : Plus s t :=
  bytes_eq (by rw [h, app_list])
theorem Plus.size {s t : ByteArray} (h : Plus s t) : s.size = t.size + 1 := by
  have := congrArg List.length h.list
  rw [List.length_append] at this
  exact this
theorem Plus.inj {s t u : ByteArray} (h : Plus s t) (k : Plus s u) : t = u :=
  bytes_eq (List.append_cancel_right (h.list.symm.trans k.list))
theorem plus_self (t : ByteArray) : Plus (t ++ ⟨#[47]⟩) t := rfl

/-- The last byte of a string that is not empty. -/
theorem split_last (s : ByteArray) (h : 0 < s.size) : s.data.toList = s.data.toList.take (s.size - 1) ++ [s[s.size - 1]] := by
  have e : s.data.toList.length = s.size := rfl
  have hl : s.size - 1 < s.data.toList.length := by rw [e]; omega
  have e1 : s.data.toList.take (s.size - 1 + 1) = s.data.toList := List.take_of_length_le (by rw [e]; omega)
  have e2 := List.take_succ_eq_append_getElem hl
  rw [e1] at e2
  exact e2

theorem ends_last {s : ByteArray} (h : Ends s) : ∃ hp : 0 < s.size, s[s.size - 1] = 47 := by
  obtain ⟨t, ht⟩ := h
  have hp : 0 < s.size := by have := ht.size; omega
  refine ⟨hp, ?_⟩
  have h1 := split_last s hp
  rw [ht.list] at h1
  have h2 := List.append_inj_right' h1 rfl
  exact (List.cons.inj h2).1.symm
theorem ends_of_last {s : ByteArray} (hp : 0 < s.size) (h : s[s.size - 1] = 47) : Ends s := by
  refine ⟨⟨(s.data.toList.take (s.size - 1)).toArray⟩, plus_of ?_⟩
  have h1 := split_last s hp
  rw [h] at h1
  exact h1

theorem last_int (c : UInt8) : ((c.toNat : Int) == 47) = decide (c = 47) := by
  rw [Bool.eq_iff_iff, beq_iff_eq, decide_eq_true_iff]
  constructor
  · intro h; exact UInt8.toNat_inj.1 (by rw [show (47 : UInt8).toNat = 47 from rfl]; omega)
  · rintro rfl; rfl

theorem tail_list (s : ByteArray) (h : 0 < s.size) : (s.extract (s.size - 1) s.size).toList = [s[s.size - 1]] := by
  rw [ByteArray.toList_eq, Lib.extract_to_end]
  have h1 := split_last s h
  have e : s.data.toList.length = s.size := rfl
  rw [List.drop_eq_getElem_cons (by rw [e]; omega), List.drop_of_length_le (by rw [e]; omega)]
  rfl
theorem head_plus {s t : ByteArray} (h : Plus s t) : s.extract 0 (s.size - 1) = t := by
  refine bytes_eq ?_
  have e : t.data.toList.length = t.size := rfl
  rw [Lib.extract_data, h.list, h.size, List.drop_zero, Nat.sub_zero, Nat.add_sub_cancel, ← e, List.take_left]

theorem trim_ex (s : ByteArray) : ∃ t, Trim s t := by
  by_cases h : Ends s
  · obtain ⟨t, ht⟩ := h; exact ⟨t, .inl ht⟩
  · exact ⟨s, .inr ⟨rfl, h⟩⟩
theorem Trim.size {s t : ByteArray} (h : Trim s t) : t.size ≤ s.size := by
  rcases h with h | ⟨rfl, _⟩
  · have := h.size; omega
  · exact Nat.le_refl _

/-- The two roads to 'the same endpoints'. -/
theorem same_iff {a b ta tb : ByteArray} (ha : Trim a ta) (hb : Trim b tb) : ta = tb ↔ (a = b ∨ (Plus a b ∧ ¬ Ends b) ∨ (Plus b a ∧ ¬ Ends a)) := by
  constructor
  · rintro rfl
    rcases ha with ha | ⟨rfl, ha⟩
    · rcases hb with hb | ⟨rfl, hb⟩
      · left
        exact bytes_eq (ha.list.trans hb.list.symm)
      · exact .inr (.inl ⟨ha, hb⟩)
    · rcases hb with hb | ⟨rfl, hb⟩
      · exact .inr (.inr ⟨hb, ha⟩)
      · exact .inl rfl
  · rintro (rfl | ⟨h, hn⟩ | ⟨h, hn⟩)
    · rcases ha with ha | ⟨rfl, ha⟩
      · rcases hb with hb | ⟨rfl, hb⟩
        · exact ha.inj hb
        · exact absurd ⟨_, ha⟩ hb
      · rcases hb with hb | ⟨rfl, hb⟩
        · exact absurd ⟨_, hb⟩ ha
        · rfl
    · have h1 : ta = b := by
        rcases ha with ha | ⟨rfl, ha⟩
        · exact ha.inj h
        · exact absurd ⟨_, h⟩ ha
      have h2 : tb = b := by
        rcases hb with hb | ⟨rfl, hb⟩
        · exact absurd ⟨_, hb⟩ hn
        · rfl
      rw [h1, h2]
    · have h1 : tb = a := by
        rcases hb with hb | ⟨rfl, hb⟩
        · exact hb.inj h
        · exact absurd ⟨_, h⟩ hb
      have h2 : ta = a := by
        rcases ha with ha | ⟨rfl, ha⟩
        · exact absurd ⟨_, ha⟩ hn
        · rfl
      rw [h1, h2]

/-- A common tail is no matter. -/
theorem tail_iff (a b c : ByteArray) : (a ++ c = b ++ c) ↔ a = b := by
  constructor
  · intro h
    have := congrArg (fun x => x.data.toList) h
    simp only [app_list] at this
    exact bytes_eq (List.append_cancel_right this)
  · rintro rfl; rfl

end Go.Proofs.Qxb6601061a
