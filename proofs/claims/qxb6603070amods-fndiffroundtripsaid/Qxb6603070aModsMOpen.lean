import Derived.Test.Qxb6603070aModsMWalks
import Derived.SliceStrings
import Derived.OpenShut
namespace Go.Proofs.Qxb6603070aMods.M
open Go.ChangeShapes Go.WideShapes Go.ChangeAt Go.RowKit Go.Proofs.Qxb6603070aMods.L

theorem cells9 : Trym.prog.cellsOf 9 = 1 := by kernel_rfl
theorem open_strs {H : Type} {enc : TypeId × Value → H} {w : World} {base : Nat} {held : Bool} {fuel : Nat} {x : DataW H × List MemPlace} {a : Option Addr} {len cap : Nat}
    (h : DataW.trod enc Trym.prog w base (fun _ => true) held fuel 22 (Value.slice a len cap).cells.toList = some x) : ∃ ss, ss.length = len ∧ At w a ss ∧ (a = none → ss = [] ∧ cap = 0) := by
  rcases open_strings Trym.underlying22 Trym.underlying9 cells9 h with ⟨hcs, _⟩ | ⟨ad, l, c, ss, hcs, _, hl, hm, hz, _, hcell, _⟩
  · simp [Value.cells] at hcs
    obtain ⟨rfl, rfl, rfl⟩ := hcs
    exact ⟨[], rfl, fun j s hs => by simp at hs, fun _ => ⟨rfl, rfl⟩⟩
  · simp [Value.cells] at hcs
    obtain ⟨rfl, rfl, rfl⟩ := hcs
    simp only [if_true] at hz
    refine ⟨ss.take len, by simp; omega, ?_, fun h => by cases h⟩
    intro j s hs
    have hj : j < len := by have := (List.getElem?_eq_some_iff.1 hs).1; simp at this; omega
    rw [List.getElem?_take, if_pos hj] at hs
    have hc := hcell j (by omega)
    rw [List.getD, hs] at hc
    obtain ⟨b, off, spot⟩ := ad
    have hspot : spot = none := by simpa [Addr.add] using World.cell?_spot (hcell 0 (by omega))
    subst hspot
    rw [Addr.add_lit] at hc
    exact ⟨b, off, rfl, hc⟩
end Go.Proofs.Qxb6603070aMods.M
