/-
  FROM A SLICE OF BYTES THAT CAME IN TO 'Row'.
-/
import Derived.Test.Qxb6604126aDoorParts
import Derived.OpenShut
namespace Go.Proofs.Qxb6604126aDoor
open Go.RowKit

theorem rowIn {w : World} {a : Option Addr} {len cap : Nat} {zs : List Int}
    (h : (a = none ∧ len = 0 ∧ cap = 0 ∧ zs = []) ∨ ∃ x, a = some x ∧ len ≤ cap ∧ cap ≤ maxLen ∧ zs.length = cap ∧ (∀ i, i < zs.length → w.cell? (x.add i) = some (.int .u8 (zs.getD i 0))) ∧ ∀ n ∈ zs, (Lit.int .u8 n).wf = true) :
    ∃ l : List UInt8, l.length = len ∧ Row w a l := by
  rcases h with ⟨_, rfl, _, _⟩ | ⟨x, rfl, hlc, _, hz, hc, hw⟩
  · exact ⟨[], rfl, .inl rfl⟩
  · by_cases h0 : len = 0
    · exact ⟨[], h0.symm, .inl rfl⟩
    · obtain ⟨b, off, spot⟩ := x
      have hspot : spot = none := by simpa [Addr.add] using World.cell?_spot (hc 0 (by omega))
      subst hspot
      refine ⟨(zs.take len).map fun n => UInt8.ofNat n.toNat, by simp; omega, .inr ⟨b, off, rfl, ?_, fun i hi => ?_⟩⟩
      · have h1 := hc 0 (by omega)
        rcases Nat.lt_or_ge b w.heap.size with h' | h'
        · exact h'
        · simp [World.cell?, Addr.add, Array.getElem?_eq_none h'] at h1
      · have hi' : i < len := by simp at hi; omega
        have h1 := hc i (by omega)
        have h2 : zs.getD i 0 = zs[i]'(by omega) := by simp [show i < zs.length by omega]
        have h3 := bounds_u8 (hw (zs[i]'(by omega)) (List.getElem_mem _))
        rw [h2] at h1
        have h4 : (((zs.take len).map fun n => UInt8.ofNat n.toNat).getD i 0) = UInt8.ofNat (zs[i]'(by omega)).toNat := by
          simp [hi', show i < zs.length by omega]
        rw [h4]
        have h5 : (((UInt8.ofNat (zs[i]'(by omega)).toNat).toNat : Nat) : Int) = zs[i]'(by omega) := by
          rw [UInt8.toNat_ofNat']
          omega
        rw [h5]
        rw [Addr.add_lit] at h1
        exact h1
end Go.Proofs.Qxb6604126aDoor
