/-
  A region that draws its order, walked along steps of the prover's own: taken, carried out alone, or two in either order. Nothing here names the dump.
-/
import Derived.Test.Qxb6603070aModsHeld
namespace Go.Proofs.Qxb6603070aMods.L
open Go.RowKit

/-- A step: take i | carry out i | carry out i and j, in either order. -/
abbrev Hs : Type := Nat ⊕ (Nat ⊕ (Nat × Nat))
abbrev Hs.take (i : Nat) : Hs := .inl i
abbrev Hs.run (i : Nat) : Hs := .inr (.inl i)
abbrev Hs.both (i j : Nat) : Hs := .inr (.inr (i, j))

def htLen : List Hs → Nat
  | [] => 0
  | .inl _ :: r => htLen r + 1
  | .inr (.inl _) :: r => htLen r + 1
  | .inr (.inr _) :: r => htLen r + 1 + 1

def htB (md : Region.Mode) (ops : Array Oper) : List Hs → Array Bool → Bool
  | [], listed => (Region.ready md ops listed).isEmpty
  | .inl i :: r, listed => (Region.ready md ops listed).contains i && Region.free md ops listed i && htB md ops r (listed.setIfInBounds i true)
  | .inr (.inl i) :: r, listed => decide (Region.ready md ops listed = [i]) && htB md ops r (listed.setIfInBounds i true)
  | .inr (.inr (i, j)) :: r, listed => decide (Region.ready md ops listed = [i, j]) && ((decide (Region.ready md ops (listed.setIfInBounds i true) = [j]) && htB md ops r ((listed.setIfInBounds i true).setIfInBounds j true)) &&
      (decide (Region.ready md ops (listed.setIfInBounds j true) = [i]) && htB md ops r ((listed.setIfInBounds j true).setIfInBounds i true)))

/-- One operation is carried out. -/
def runW (P : Program) (ops : Array Oper) (Q : Exit → Act → World → Prop) (S : World → Prop) (o : Oper) (K : Act → World → Prop) (a : Act) (w : World) : Prop :=
  Region.wanted o (yielded ops a.tmps) = true ∧ o.wp P a w (fun a' w' => S w' ∧ K a' w') Q
theorem runW_mono {P : Program} {ops : Array Oper} {Q : Exit → Act → World → Prop} {S : World → Prop} {o : Oper} {K K' : Act → World → Prop} {a : Act} {w : World} (hK : ∀ a w, S w → K a w → K' a w) (h : runW P ops Q S o K a w) : runW P ops Q S o K' a w :=
  ⟨h.1, Oper.wp_mono (fun a' w' h' => ⟨h'.1, hK a' w' h'.1 h'.2⟩) h.2⟩

def htW (P : Program) (ops : Array Oper) (Q : Exit → Act → World → Prop) (S : World → Prop) : List Hs → Act → World → Prop
  | [], a, w => Q .normal a w
  | .inl i :: r, a, w => ∃ o v, ops[i]? = some o ∧ YieldsIf P ops S o v a ∧ htW P ops Q S r (a.put o.dst v) w
  | .inr (.inl i) :: r, a, w => ∃ o, ops[i]? = some o ∧ runW P ops Q S o (htW P ops Q S r) a w
  | .inr (.inr (i, j)) :: r, a, w => ∃ o o2, ops[i]? = some o ∧ ops[j]? = some o2 ∧ runW P ops Q S o (runW P ops Q S o2 (htW P ops Q S r)) a w ∧ runW P ops Q S o2 (runW P ops Q S o (htW P ops Q S r)) a w

theorem wpAnyH_run {P : Program} {md : Region.Mode} {ops : Array Oper} {Q : Exit → Act → World → Prop} {S : World → Prop} {n i : Nat} {listed : Array Bool} {a : Act} {w : World} {o : Oper} {K : Act → World → Prop} (hr : Region.ready md ops listed = [i]) (ho : ops[i]? = some o)
    (hK : ∀ a w, S w → K a w → wpAnyH P md ops Q S n (listed.setIfInBounds i true) a w) (h : runW P ops Q S o K a w) : wpAnyH P md ops Q S (n + 1) listed a w := by
  refine wpAnyH_all hr (by simp) ?_
  intro j hj
  simp only [List.mem_singleton] at hj
  subst hj
  refine wpOp_mono (K := fun a' w' => S w' ∧ K a' w') (fun a' w' h' => ⟨h'.1, hK a' w' h'.1 h'.2⟩) ?_
  unfold wpOp
  simp only [ho, h.1, if_true]
  exact .inl h.2

theorem wpAnyH_of_ht {P : Program} {md : Region.Mode} {ops : Array Oper} {Q : Exit → Act → World → Prop} {S : World → Prop} (hs : Region.noSelect ops = true) (hQ : ∀ c (a : Act) (d : Option Tmp) v w, Q (.panic c) (a.put d v) w → Q (.panic c) a w) :
    ∀ (r : List Hs) (listed : Array Bool) (a : Act) (w : World), htB md ops r listed = true → S w → htW P ops Q S r a w → wpAnyH P md ops Q S (htLen r) listed a w
  | [], listed, a, w, hB, _, h => ⟨by simpa [htB] using hB, h⟩
  | .inl i :: r, listed, a, w, hB, hS, h => by
    simp only [htB, Bool.and_eq_true] at hB
    obtain ⟨o, v, ho, hy, hrest⟩ := h
    exact wpAnyH_take ho hs hB.1.2 hB.1.1 (fun c a w hq => hQ c a _ _ w hq) hy hS (wpAnyH_of_ht hs hQ r _ _ w hB.2 hS hrest)
  | .inr (.inl i) :: r, listed, a, w, hB, hS, h => by
    simp only [htB, Bool.and_eq_true, decide_eq_true_eq] at hB
    obtain ⟨o, ho, hrun⟩ := h
    exact wpAnyH_run hB.1 ho (fun a' w' hS' h' => wpAnyH_of_ht hs hQ r _ a' w' hB.2 hS' h') hrun
  | .inr (.inr (i, j)) :: r, listed, a, w, hB, hS, h => by
    simp only [htB, Bool.and_eq_true, decide_eq_true_eq] at hB
    obtain ⟨o, o2, ho, ho2, h1, h2⟩ := h
    refine wpAnyH_all hB.1 (by simp) ?_
    intro k hk
    simp only [List.mem_cons, List.not_mem_nil, or_false] at hk
    rcases hk with rfl | rfl
    · refine wpOp_mono (K := fun a' w' => S w' ∧ runW P ops Q S o2 (htW P ops Q S r) a' w') (fun a' w' h' => ⟨h'.1, wpAnyH_run hB.2.1.1 ho2 (fun a3 w3 hS3 h3 => wpAnyH_of_ht hs hQ r _ a3 w3 hB.2.1.2 hS3 h3) h'.2⟩) ?_
      unfold wpOp
      simp only [ho, h1.1, if_true]
      exact .inl h1.2
    · refine wpOp_mono (K := fun a' w' => S w' ∧ runW P ops Q S o (htW P ops Q S r) a' w') (fun a' w' h' => ⟨h'.1, wpAnyH_run hB.2.2.1 ho (fun a3 w3 hS3 h3 => wpAnyH_of_ht hs hQ r _ a3 w3 hB.2.2.2 hS3 h3) h'.2⟩) ?_
      unfold wpOp
      simp only [ho2, h2.1, if_true]
      exact .inl h2.2

/-- The region, by such a walk. -/
theorem wp_region_tree {P : Program} {id : Nat} {Q : Exit → Act → World → Prop} {a : Act} {w : World} {l : List Oper} (S : World → Prop) (r : List Hs) (hm : P.follows .mixedOrders = true) (hs : Region.noSelect l.toArray = true)
    (hB : htB .any l.toArray r (Array.replicate l.length false) = true) (hl : htLen r = l.length) (hQ : ∀ c (a : Act) (d : Option Tmp) v w, Q (.panic c) (a.put d v) w → Q (.panic c) a w) (hS : S w.drew)
    (h : htW P l.toArray Q S r a w.drew) : (Code.region id l.toArray true).wp P Q a w := by
  refine wp_region_held (S := S) hm ?_
  have := wpAnyH_of_ht (md := .any) hs hQ r (Array.replicate l.length false) a w.drew hB hS h
  rw [hl] at this
  simpa using this
end Go.Proofs.Qxb6603070aMods.L
