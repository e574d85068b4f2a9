import Derived.Test.Qxb6603070aModsMWp
import Derived.Test.Qxb6603070aModsDEq
namespace Go.Proofs.Qxb6603070aMods.M
open Go.RowKit Go.Proofs.Qxb6603070aMods.L

theorem range_pair {w : World} {g off : Nat} {T : List P2} (h : w.rangeAt g off (flatP T)) {k : Nat} {p : P2} (hp : T[k]? = some p) : w.rangeAt g (off + k * 2) (pc p) := by
  intro j u hu
  match j, hu with
  | 0, hu =>
    simp [pc] at hu
    subst hu
    exact h (k * 2) _ (flatP_get0 T k p hp)
  | 1, hu =>
    simp [pc] at hu
    subst hu
    have := h (k * 2 + 1) _ (flatP_get1 T k p hp)
    rwa [← Nat.add_assoc] at this
  | j + 2, hu => simp [pc] at hu
theorem Src.at {w : World} {a : Option Addr} {c : Nat} {L : List P2} (h : Src w a c L) {k : Nat} {p : P2} (hp : L[k]? = some p) : ∃ g, a = some ⟨g, 0, none⟩ ∧ ∀ w', Below w.heap.size w w' → w'.rangeAt g (k * 2) (pc p) := by
  rcases h with ⟨_, rfl, _⟩ | ⟨g, ha, h⟩
  · simp at hp
  · refine ⟨g, ha, fun w' hb => ?_⟩
    have := range_pair (h w' hb) hp
    rwa [Nat.zero_add] at this
theorem Src.grown {w : World} {B : Nat} {t : TypeId} {v : Value} {n : Nat} {W : List P2} (h : w.ownsRow B t 2 v n (flatP W)) (hn : n = W.length) : ∃ a c, v = .slice a n c ∧ Src w a c W := by
  rcases h.2 with ⟨rfl, h0⟩ | ⟨g, cap, cur, rfl, _⟩
  · have : W = [] := List.eq_nil_of_length_eq_zero (by omega)
    exact ⟨none, 0, by rw [h0], .inl ⟨rfl, this, rfl⟩⟩
  · refine ⟨_, cap, rfl, .inr ⟨g, rfl, fun w' hb => ?_⟩⟩
    intro j u hu
    have := (own_all h hb).cells (g := g) rfl j u hu
    rwa [Addr.add_lit] at this
theorem exec_neg {P : Program} {o : Oper} {a : Act} {w : World} (t : TypeId) (x : Operand) (ho : o.op = .unOp .not t x) (b : Bool) (hx : a.eval x = .bool b) : (execOp a.eval o).run P w = .ok (.value (.bool !b)) w := by
  simp only [execOp, ho, hx]
  simp [Op.unary]
theorem drewN_below (w : World) (n : Nat) : Below w.heap.size w (w.drewN n) := ⟨rfl, rfl, rfl, Nat.le_refl _, fun _ _ => rfl⟩
theorem lit_below {w w' : World} (h : ∃ n, w' = w.drewN n) : Below w.heap.size w w' := by
  obtain ⟨n, rfl⟩ := h
  exact drewN_below w n
theorem row_ge {w : World} {base : Nat} {e : TypeId} {size : Nat} {v : Value} {n : Nat} {xs : List Value} (h : w.ownsRow base e size v n xs) {q : Nat} (hq : v.ownBlock = some q) : base ≤ q := by
  rcases h.2 with ⟨rfl, _⟩ | ⟨g, cap, cur, rfl, hb, _⟩
  · simp [Value.ownBlock] at hq
  · simp [Value.ownBlock] at hq
    subst hq
    exact hb
theorem slice43 : (Trym.prog.info? 43).map (fun i => (i.zero, i.size)) = some (some (.agg #[.string ByteArray.empty, .string ByteArray.empty]), 2) := by kernel_rfl
theorem slice49 : (Trym.prog.info? 49).map (fun i => (i.zero, i.size)) = some (some (.agg #[.string ByteArray.empty, .string ByteArray.empty]), 2) := by kernel_rfl
end Go.Proofs.Qxb6603070aMods.M
