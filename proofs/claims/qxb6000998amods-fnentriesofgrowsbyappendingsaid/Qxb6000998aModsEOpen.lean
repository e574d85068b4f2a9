import Derived.Test.Qxb6000998aModsEClone
import Derived.Deep.Matrix
import Derived.WalkKit
import Derived.ProofKit
import Derived.OpenShut
namespace Go.Proofs.Qxb6000998aMods.E
open Go.RowKit Go.ChangeShapes Go.WideShapes Go.Deep Go.Proofs.Qxb6000998aMods.L

/-- An argument of type [][]uint16. -/
theorem open_rows {H : Type} {enc : TypeId × Value → H} {W : World} {base : Nat} {held : Bool} {d : DataW H} {p : List MemPlace} {a0 : Option Addr} {len cap : Nat}
    (h : DataW.Trod enc Trym.prog W base (fun _ => true) held 45 (.slice a0 len cap) d p) : ∃ O, InRows W a0 len cap O ∧ (∀ row ∈ O, ∀ o ∈ row, 0 ≤ o ∧ o ≤ 65535) ∧ len ≤ maxLen := by
  obtain ⟨fuel, hf⟩ := h
  rcases open_int_rows Trym.underlying45 Trym.underlying53 Trym.underlying54 (by kernel_rfl) (by kernel_rfl) hf with ⟨hcs, _⟩ | ⟨a, l, c, A, L, C, Z, hcs, _, hl, hm, _, hr⟩
  · simp [Value.cells] at hcs
    obtain ⟨rfl, rfl, rfl⟩ := hcs
    exact ⟨[], ⟨rfl, .inl ⟨rfl, rfl, rfl⟩⟩, by simp, by simp⟩
  · simp [Value.cells] at hcs
    obtain ⟨rfl, rfl, rfl⟩ := hcs
    have hb : ∀ r, r < len → ∀ n ∈ (Z r).take (L r), 0 ≤ n ∧ n ≤ 65535 := fun r h n hn => bounds_u16 ((hr r (by omega)).2.2.2.2.1 n (List.mem_of_mem_take hn))
    refine ⟨(List.range len).map fun r => (Z r).take (L r), ⟨by simp, .inr ⟨a, (List.range len).map fun r => .slice (A r) (L r) (C r), rfl, ?_, ?_⟩⟩, ?_, by omega⟩
    · intro j hj
      rw [(hr j (by omega)).1]
      simp [List.getD, hj]
    · intro j hj
      obtain ⟨h1, h2, h3, h4, h5, h6, h7⟩ := hr j (by omega)
      have e1 : ((List.range len).map fun r => Value.slice (A r) (L r) (C r)).getD j undef = .slice (A j) (L j) (C j) := by simp [List.getD, hj]
      have e2 : ((List.range len).map fun r => (Z r).take (L r)).getD j [] = (Z j).take (L j) := by simp [List.getD, hj]
      have e3 : ((Z j).take (L j)).length = L j := by simp; omega
      rw [e1, e2]
      refine ⟨A j, C j, by rw [e3], hb j hj, ?_⟩
      cases hA : A j with
      | none =>
        have := h6 hA
        exact .inl ⟨rfl, by rw [← List.length_eq_zero_iff]; omega, this⟩
      | some x =>
        refine .inr ⟨x, rfl, fun i hi => ?_⟩
        rw [(h7 x hA).2 i (by omega)]
        have : i < L j := by omega
        simp [List.getD, this]
    · intro row hrow o ho
      obtain ⟨r, hr', rfl⟩ := List.mem_map.1 hrow
      exact hb r (List.mem_range.1 hr') o ho
end Go.Proofs.Qxb6000998aMods.E
