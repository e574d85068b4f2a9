/-
  The walk along such steps, the operations themselves in them. Nothing here names the dump.
-/
import Derived.Test.Qxb6603070aModsMFork
namespace Go.Proofs.Qxb6603070aMods.L
open Go.RowKit

abbrev Ho : Type := Oper ⊕ (Oper ⊕ (Oper × Oper))

def pickT (l : List Oper) : List Hs → List Ho
  | [] => []
  | .inl i :: r => .inl (l.getD i default) :: pickT l r
  | .inr (.inl i) :: r => .inr (.inl (l.getD i default)) :: pickT l r
  | .inr (.inr (i, j)) :: r => .inr (.inr (l.getD i default, l.getD j default)) :: pickT l r

def htIn (n : Nat) : List Hs → Bool
  | [] => true
  | .inl i :: r => decide (i < n) && htIn n r
  | .inr (.inl i) :: r => decide (i < n) && htIn n r
  | .inr (.inr (i, j)) :: r => (decide (i < n) && decide (j < n)) && htIn n r

def hoW (P : Program) (ops : Array Oper) (Q : Exit → Act → World → Prop) (S : World → Prop) : List Ho → Act → World → Prop
  | [], a, w => Q .normal a w
  | .inl o :: r, a, w => ∃ v, YieldsIf P ops S o v a ∧ hoW P ops Q S r (a.put o.dst v) w
  | .inr (.inl o) :: r, a, w => runW P ops Q S o (hoW P ops Q S r) a w
  | .inr (.inr (o, o2)) :: r, a, w => runW P ops Q S o (runW P ops Q S o2 (hoW P ops Q S r)) a w ∧ runW P ops Q S o2 (runW P ops Q S o (hoW P ops Q S r)) a w

theorem htW_of_ho {P : Program} {l : List Oper} {Q : Exit → Act → World → Prop} {S : World → Prop} : ∀ (r : List Hs) (a : Act) (w : World), htIn l.length r = true → hoW P l.toArray Q S (pickT l r) a w → htW P l.toArray Q S r a w
  | [], _, _, _, h => h
  | .inl i :: r, a, w, hl, h => by
    simp only [htIn, Bool.and_eq_true, decide_eq_true_eq] at hl
    have e : l.toArray[i]? = some (l.getD i default) := by simp [List.getD, hl.1]
    obtain ⟨v, hy, hr⟩ := h
    exact ⟨_, v, e, hy, htW_of_ho r _ w hl.2 hr⟩
  | .inr (.inl i) :: r, a, w, hl, h => by
    simp only [htIn, Bool.and_eq_true, decide_eq_true_eq] at hl
    have e : l.toArray[i]? = some (l.getD i default) := by simp [List.getD, hl.1]
    exact ⟨_, e, runW_mono (fun a' w' _ h' => htW_of_ho r a' w' hl.2 h') h⟩
  | .inr (.inr (i, j)) :: r, a, w, hl, h => by
    simp only [htIn, Bool.and_eq_true, decide_eq_true_eq] at hl
    have e : l.toArray[i]? = some (l.getD i default) := by simp [List.getD, hl.1.1]
    have e2 : l.toArray[j]? = some (l.getD j default) := by simp [List.getD, hl.1.2]
    exact ⟨_, _, e, e2, runW_mono (fun a' w' _ h' => runW_mono (fun a3 w3 _ h3 => htW_of_ho r a3 w3 hl.2 h3) h') h.1, runW_mono (fun a' w' _ h' => runW_mono (fun a3 w3 _ h3 => htW_of_ho r a3 w3 hl.2 h3) h') h.2⟩

theorem wp_region_ho {P : Program} {id : Nat} {Q : Exit → Act → World → Prop} {a : Act} {w : World} {l : List Oper} (S : World → Prop) (r : List Hs) (hm : P.follows .mixedOrders = true) (hs : Region.noSelect l.toArray = true)
    (hB : htB .any l.toArray r (Array.replicate l.length false) = true) (hl : htLen r = l.length) (hin : htIn l.length r = true) (hQ : ∀ c (a : Act) (d : Option Tmp) v w, Q (.panic c) (a.put d v) w → Q (.panic c) a w) (hS : S w.drew)
    (h : hoW P l.toArray Q S (pickT l r) a w.drew) : (Code.region id l.toArray true).wp P Q a w :=
  wp_region_tree S r hm hs hB hl hQ hS (htW_of_ho r a w.drew hin h)

section
variable {P : Program} {ops : Array Oper} {Q : Exit → Act → World → Prop} {S : World → Prop} {r : List Ho} {a : Act} {w : World} {o o2 : Oper}
theorem ho_take (v : Value) (hw : Region.wanted o (yielded ops a.tmps) = true) (hv : ∀ w, S w → (execOp a.eval o).run P w = .ok (.value v) w) (h : hoW P ops Q S r (a.put o.dst v) w) : hoW P ops Q S (.inl o :: r) a w :=
  ⟨v, .inl ⟨hw, hv⟩, h⟩
theorem ho_mv (x : Operand) (v : Value) (hw : Region.wanted o (yielded ops a.tmps) = true) (hop : o.op = .move x) (hx : a.eval x = v) (h : hoW P ops Q S r (a.put o.dst v) w) : hoW P ops Q S (.inl o :: r) a w :=
  ho_take v hw (fun w _ => by simp [execOp, hop, hx]) h
theorem ho_run (hw : Region.wanted o (yielded ops a.tmps) = true) (h : o.wp P a w (fun a' w' => S w' ∧ hoW P ops Q S r a' w') Q) : hoW P ops Q S (.inr (.inl o) :: r) a w := ⟨hw, h⟩
theorem ho_fork (hw : Region.wanted o (yielded ops a.tmps) = true) (h : o.wp P a w (fun a' w' => S w' ∧ hoW P ops Q S (.inr (.inl o2) :: r) a' w') Q)
    (hw2 : Region.wanted o2 (yielded ops a.tmps) = true) (h2 : o2.wp P a w (fun a' w' => S w' ∧ hoW P ops Q S (.inr (.inl o) :: r) a' w') Q) : hoW P ops Q S (.inr (.inr (o, o2)) :: r) a w := ⟨⟨hw, h⟩, ⟨hw2, h2⟩⟩
theorem ho_done (h : Q .normal a w) : hoW P ops Q S [] a w := h
end
end Go.Proofs.Qxb6603070aMods.L
