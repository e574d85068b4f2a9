import Derived.Test.Qxb6000998aModsEOpen
namespace Go.Proofs.Qxb6000998aMods.E
open Go.RowKit Go.ChangeShapes Go.WideShapes Go.Deep Go.Proofs.Qxb6000998aMods.L

/-- An argument of type []uint16. -/
theorem open_row {H : Type} {enc : TypeId × Value → H} {W : World} {base : Nat} {held : Bool} {d : DataW H} {p : List MemPlace} {a : Option Addr} {len cap : Nat}
    (h : DataW.Trod enc Trym.prog W base (fun _ => true) held 53 (.slice a len cap) d p) : ∃ X : List Int, len = X.length ∧ InRow W (.slice a X.length cap) X ∧ ∀ o ∈ X, 0 ≤ o ∧ o ≤ 65535 := by
  obtain ⟨fuel, hf⟩ := h
  rcases open_ints Trym.underlying53 Trym.underlying54 (by kernel_rfl) hf with ⟨hcs, _⟩ | ⟨x, l, c, zs, hcs, _, hl, hm, hz, _, hcell, hwz⟩
  · simp [Value.cells] at hcs
    obtain ⟨rfl, rfl, rfl⟩ := hcs
    exact ⟨[], rfl, ⟨none, 0, rfl, by simp, .inl ⟨rfl, rfl, rfl⟩⟩, by simp⟩
  · simp [Value.cells] at hcs
    obtain ⟨rfl, rfl, rfl⟩ := hcs
    have hzl : zs.length = cap ∨ zs.length = len := by
      first
        | exact .inl (by simpa using hz)
        | exact .inr (by simpa using hz)
    have hb : ∀ n ∈ zs.take len, 0 ≤ n ∧ n ≤ 65535 := fun n hn => bounds_u16 (hwz n (List.mem_of_mem_take hn))
    have el : (zs.take len).length = len := by simp; omega
    refine ⟨zs.take len, el.symm, ⟨some x, cap, rfl, hb, .inr ⟨x, rfl, fun j hj => ?_⟩⟩, hb⟩
    rw [el] at hj
    rw [hcell j (by omega)]
    simp [List.getD, hj]
end Go.Proofs.Qxb6000998aMods.E
