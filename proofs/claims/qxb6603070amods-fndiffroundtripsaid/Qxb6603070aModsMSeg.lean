import Derived.Test.Qxb6603070aModsMPairs
import Derived.Test.Qxb6603070aModsMCopy
namespace Go.Proofs.Qxb6603070aMods.M
open Go.RowKit Go.Proofs.Qxb6603070aMods.L

def seg {α : Type} (T : List α) (i m : Nat) : List α := (T.drop i).take (m - i)
theorem seg_cons {α : Type} {T : List α} {i m : Nat} {a : α} (h : T[i]? = some a) (hi : i < m) : seg T i m = a :: seg T (i + 1) m := by
  obtain ⟨h1, h2⟩ := List.getElem?_eq_some_iff.1 h
  unfold seg
  rw [List.drop_eq_getElem_cons h1, h2, show m - i = (m - (i + 1)) + 1 from by omega, List.take_succ_cons]
theorem seg_nil {α : Type} {T : List α} {i m : Nat} (h : m ≤ i) : seg T i m = [] := by
  unfold seg
  rw [show m - i = 0 from by omega, List.take_zero]
theorem seg_chunk {α : Type} (T : List α) (lo w m : Nat) (h : m = lo + w ∨ (m = T.length ∧ m ≤ lo + w)) : seg T lo m = chunk T lo w := by
  unfold seg chunk
  rcases h with rfl | ⟨rfl, h2⟩
  · congr 1; omega
  · by_cases hl : lo ≤ T.length
    · rw [List.take_of_length_le (by rw [List.length_drop]; omega), List.take_of_length_le (by rw [List.length_drop]; omega)]
    · rw [List.drop_of_length_le (by omega)]; simp
/-- One more pair laid. -/
theorem lay_one (P M Q : List P2) (x : P2) (k : Nat) (hk : k = P.length + M.length) (hQ : 0 < Q.length) : ∃ q Q', Q = q :: Q' ∧ (P ++ (M ++ Q)).set k x = P ++ ((M ++ [x]) ++ Q') := by
  cases Q with
  | nil => simp at hQ
  | cons q Q' =>
    refine ⟨q, Q', rfl, ?_⟩
    subst hk
    rw [List.set_append, if_neg (by omega), Nat.add_sub_cancel_left, List.set_append, if_neg (by omega), Nat.sub_self, List.set_cons_zero]
    simp

theorem exec_loadB {P : Program} {o : Oper} {a : Act} {w : World} (ty : TypeId) (x : Operand) (ho : o.op = .load ty x) (b off : Nat) (hx : a.eval x = .pointer (some ⟨b, off, none⟩)) (vs : List Value) (hr : w.rangeAt b off vs)
    (d : TypeDesc) (hu : P.underlying ty = some d) (hd : d.isRow = true) (hi : (P.info? ty).map (·.size) = some vs.length) :
    (execOp a.eval o).run P w = .ok (.value (.agg vs.toArray)) w := by
  have h := run_loadVar_mid (P := P) w b off ty vs d hr hu hd hi
  simp [execOp, ho, hx, Instr.loadAt, Instr.sureAddr, h]
theorem wp_region_quietC {P : Program} {id : Nat} {Q : Exit → Act → World → Prop} {a : Act} {w : World} {l : List Oper} (C : World → Prop) (hm : P.follows .mixedOrders = true) (hB : Region.lexB .any l.toArray = true) (hC : C w.drew)
    (h : wpQuiet P l.toArray C (fun a' => ∀ w', C w' → Q .normal a' w') l a) : (Code.region id l.toArray true).wp P Q a w :=
  wp_region_quiet (C := C) hm hB hC (by simpa using h)
theorem pair_range {w : World} {g : Nat} {T : List P2} {t : TypeId} (hB : Blk w g (flatP T) t) {k : Nat} {p : P2} (hp : T[k]? = some p) : w.rangeAt g (k * 2) (pc p) := by
  have := hB.range (k * 2) 2
  rwa [flatP_sub T k p hp] at this
end Go.Proofs.Qxb6603070aMods.M
