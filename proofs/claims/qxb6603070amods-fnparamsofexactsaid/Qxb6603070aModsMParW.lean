import Derived.Test.Qxb6603070aModsMPar
namespace Go.Proofs.Qxb6603070aMods.M
open Go.RowKit Go.Proofs.Qxb6603070aMods.L

def KS (a : ByteArray) : Value := .string a
/-- What paramsOf holds of the pairs W. -/
def Params (B : Nat) (w : World) (v : Value) (W : List P2) : Prop :=
  (v = .map none ∧ W = []) ∨ ∃ m kv, v = .map (some m) ∧ B ≤ m ∧ W ≠ [] ∧ MapB w m KS kv ∧ kv.map (fun q : ByteArray × Value => q.1) = keysOf (W.map (·.1)) ∧ ∀ q ∈ kv, w.ownsRow B 49 2 q.2 (named q.1 W).length (flatP (named q.1 W))
theorem Params.all {B : Nat} {w w' : World} {v : Value} {W : List P2} (h : Params B w v W) (b : Below w.heap.size w w') : Params B w' v W := by
  rcases h with h | ⟨m, kv, hv, hm, hW, hM, hk, ho⟩
  · exact .inl h
  · exact .inr ⟨m, kv, hv, hm, hW, hM.all b, hk, fun q hq => own_all (ho q hq) b⟩
theorem named_snoc_same (W : List P2) (p : P2) : named p.1 (W ++ [p]) = named p.1 W ++ [p] := by simp [named]
theorem named_snoc_other (W : List P2) (p : P2) (x : ByteArray) (h : x ≠ p.1) : named x (W ++ [p]) = named x W := by simp [named, h]
theorem named_none {W : List P2} {x : ByteArray} (h : x ∉ W.map (·.1)) : named x W = [] := by
  unfold named
  rw [List.filter_eq_nil_iff]
  intro p hp e
  exact h (List.mem_map.2 ⟨p, hp, (of_decide_eq_true e).symm⟩)
theorem named_head {W : List P2} {x : ByteArray} (h : x ∈ W.map (·.1)) : ∃ p L, named x W = p :: L ∧ p.1 = x := by
  obtain ⟨q, hq, e⟩ := List.mem_map.1 h
  have hm : q ∈ named x W := List.mem_filter.2 ⟨hq, by simp [e]⟩
  cases hn : named x W with
  | nil => rw [hn] at hm; cases hm
  | cons p L =>
    refine ⟨p, L, rfl, ?_⟩
    have : p ∈ named x W := by rw [hn]; simp
    exact (of_decide_eq_true (List.mem_filter.1 this).2).symm
theorem own_first {B : Nat} {w : World} {v : Value} {n g : Nat} {p : P2} {L : List P2} (h : w.ownsRow B 49 2 v n (flatP (p :: L))) (hn : n = L.length + 1) (hb : v.ownBlock = some g) : w.cell? ⟨g, 0, none⟩ = some (.string p.1) := by
  rcases h.2 with ⟨rfl, h0⟩ | ⟨g', cap, cur, rfl, _⟩
  · simp [Value.ownBlock] at hb
  · simp [Value.ownBlock] at hb
    subst hb
    rw [h.cellAt 0 (by omega), flatP_cons]
    rfl
end Go.Proofs.Qxb6603070aMods.M
