/-
  A region that draws its order, walked in ONE order of the prover's: what only reads is taken first under a condition S on the world; a call or a store is carried out where nothing else may come up. Over the kit's 'wpAnyH' (Derived/OrdersHeld.lean). Nothing here names the dump.
-/
import Derived.Test.Qxb6603070aModsMapLaws
import Derived.OrdersHeld
import Derived.BigQuiet
namespace Go.Proofs.Qxb6603070aMods.L
open Go.RowKit

/-- The order that the prover names: (number, is it carried out?). -/
def heldB (md : Region.Mode) (ops : Array Oper) : List (Nat × Bool) → Array Bool → Bool
  | [], listed => (Region.ready md ops listed).isEmpty
  | (i, true) :: r, listed => decide (Region.ready md ops listed = [i]) && heldB md ops r (listed.setIfInBounds i true)
  | (i, false) :: r, listed => (Region.ready md ops listed).contains i && Region.free md ops listed i && heldB md ops r (listed.setIfInBounds i true)

/-- The walk in that order. -/
def heldWalk (P : Program) (ops : Array Oper) (Q : Exit → Act → World → Prop) (S : World → Prop) : List (Nat × Bool) → Act → World → Prop
  | [], a, w => Q .normal a w
  | (i, true) :: r, a, w => ∃ o, ops[i]? = some o ∧ Region.wanted o (yielded ops a.tmps) = true ∧ o.wp P a w (fun a' w' => S w' ∧ heldWalk P ops Q S r a' w') Q
  | (i, false) :: r, a, w => ∃ o v, ops[i]? = some o ∧ YieldsIf P ops S o v a ∧ heldWalk P ops Q S r (a.put o.dst v) w

theorem wpAnyH_of_held {P : Program} {md : Region.Mode} {ops : Array Oper} {Q : Exit → Act → World → Prop} {S : World → Prop} (hs : Region.noSelect ops = true) (hQ : ∀ c (a : Act) (d : Option Tmp) v w, Q (.panic c) (a.put d v) w → Q (.panic c) a w) :
    ∀ (r : List (Nat × Bool)) (listed : Array Bool) (a : Act) (w : World), heldB md ops r listed = true → S w → heldWalk P ops Q S r a w → wpAnyH P md ops Q S r.length listed a w
  | [], listed, a, w, hB, _, h => ⟨by simpa [heldB] using hB, h⟩
  | (i, true) :: r, listed, a, w, hB, hS, h => by
    simp only [heldB, Bool.and_eq_true, decide_eq_true_eq] at hB
    obtain ⟨o, ho, hw, hwp⟩ := h
    refine wpAnyH_all hB.1 (by simp) ?_
    intro j hj
    simp only [List.mem_singleton] at hj
    subst hj
    refine wpOp_mono (K := fun a' w' => S w' ∧ heldWalk P ops Q S r a' w') (fun a' w' h' => ⟨h'.1, wpAnyH_of_held hs hQ r _ a' w' hB.2 h'.1 h'.2⟩) ?_
    unfold wpOp
    simp only [ho, hw, if_true]
    exact .inl hwp
  | (i, false) :: r, listed, a, w, hB, hS, h => by
    simp only [heldB, Bool.and_eq_true] at hB
    obtain ⟨o, v, ho, hy, hrest⟩ := h
    exact wpAnyH_take ho hs hB.1.2 hB.1.1 (fun c a w hq => hQ c a _ _ w hq) hy hS (wpAnyH_of_held hs hQ r _ _ w hB.2 hS hrest)

/-- The same walk, the operations themselves in a row. -/
def heldO (P : Program) (ops : Array Oper) (Q : Exit → Act → World → Prop) (S : World → Prop) : List (Oper × Bool) → Act → World → Prop
  | [], a, w => Q .normal a w
  | (o, true) :: r, a, w => Region.wanted o (yielded ops a.tmps) = true ∧ o.wp P a w (fun a' w' => S w' ∧ heldO P ops Q S r a' w') Q
  | (o, false) :: r, a, w => ∃ v, YieldsIf P ops S o v a ∧ heldO P ops Q S r (a.put o.dst v) w

/-- The operations in the prover's order. -/
def picked (l : List Oper) (r : List (Nat × Bool)) : List (Oper × Bool) := r.map fun x => (l.getD x.1 default, x.2)

theorem walk_of_O {P : Program} {l : List Oper} {Q : Exit → Act → World → Prop} {S : World → Prop} : ∀ (r : List (Nat × Bool)) (a : Act) (w : World), (∀ x ∈ r, x.1 < l.length) → heldO P l.toArray Q S (picked l r) a w → heldWalk P l.toArray Q S r a w
  | [], _, _, _, h => h
  | (i, true) :: r, a, w, hl, h => by
    have hi : i < l.length := hl (i, true) (by simp)
    have e : l.toArray[i]? = some (l.getD i default) := by simp [List.getD, hi]
    exact ⟨_, e, h.1, Oper.wp_mono (fun a' w' h' => ⟨h'.1, walk_of_O r a' w' (fun x hx => hl x (by simp [hx])) h'.2⟩) h.2⟩
  | (i, false) :: r, a, w, hl, h => by
    have hi : i < l.length := hl (i, false) (by simp)
    have e : l.toArray[i]? = some (l.getD i default) := by simp [List.getD, hi]
    obtain ⟨v, hy, hr⟩ := h
    exact ⟨_, v, e, hy, walk_of_O r _ w (fun x hx => hl x (by simp [hx])) hr⟩

/-- The region, by such a walk. -/
theorem wp_region_walk {P : Program} {id : Nat} {Q : Exit → Act → World → Prop} {a : Act} {w : World} {l : List Oper} (S : World → Prop) (r : List (Nat × Bool)) (hm : P.follows .mixedOrders = true) (hs : Region.noSelect l.toArray = true)
    (hB : heldB .any l.toArray r (Array.replicate l.length false) = true) (hl : r.length = l.length) (hlt : (r.all fun x => decide (x.1 < l.length)) = true) (hQ : ∀ c (a : Act) (d : Option Tmp) v w, Q (.panic c) (a.put d v) w → Q (.panic c) a w) (hS : S w.drew)
    (h : heldO P l.toArray Q S (picked l r) a w.drew) : (Code.region id l.toArray true).wp P Q a w := by
  refine wp_region_held (S := S) hm ?_
  have hlt' : ∀ x ∈ r, x.1 < l.length := fun x hx => by simpa using (List.all_eq_true.1 hlt) x hx
  have := wpAnyH_of_held (md := .any) hs hQ r (Array.replicate l.length false) a w.drew hB hS (walk_of_O r a w.drew hlt' h)
  rw [hl] at this
  simpa using this

section
variable {P : Program} {ops : Array Oper} {Q : Exit → Act → World → Prop} {S : World → Prop} {r : List (Oper × Bool)} {a : Act} {w : World} {o : Oper}

theorem held_take (v : Value) (hw : Region.wanted o (yielded ops a.tmps) = true) (hv : ∀ w, S w → (execOp a.eval o).run P w = .ok (.value v) w) (h : heldO P ops Q S r (a.put o.dst v) w) : heldO P ops Q S ((o, false) :: r) a w :=
  ⟨v, .inl ⟨hw, hv⟩, h⟩
theorem held_move (x : Operand) (v : Value) (hw : Region.wanted o (yielded ops a.tmps) = true) (hop : o.op = .move x) (hx : a.eval x = v) (h : heldO P ops Q S r (a.put o.dst v) w) : heldO P ops Q S ((o, false) :: r) a w :=
  held_take v hw (fun w _ => by simp [execOp, hop, hx]) h
theorem held_call (f : FuncId) (args : Array Value) (hw : Region.wanted o (yielded ops a.tmps) = true) (hx : (execOp a.eval o).run P w = .ok (.enter f args) w)
    (hc : Calls P f args w fun e w' => ∃ v, e = .returned v ∧ S w' ∧ heldO P ops Q S r (a.put o.dst v) w') : heldO P ops Q S ((o, true) :: r) a w := by
  refine ⟨hw, ?_⟩
  unfold Oper.wp
  rw [hx]
  simp only [Oper.upon]
  refine hc.mono ?_
  rintro e w' ⟨v, rfl, h⟩
  exact h
theorem held_run (hw : Region.wanted o (yielded ops a.tmps) = true) (h : o.wp P a w (fun a' w' => S w' ∧ heldO P ops Q S r a' w') Q) : heldO P ops Q S ((o, true) :: r) a w := ⟨hw, h⟩
end

/-- A whole array or struct is stored into a block: as one operation. -/
theorem wp_storeB {P : Program} {o : Oper} {a : Act} {w : World} {K : Act → World → Prop} {Q : Exit → Act → World → Prop} (ty : TypeId) (x y : Operand) (ho : o.op = .store ty x y) (b off : Nat) (hx : a.eval x = .pointer (some ⟨b, off, none⟩)) (vs : List Value) (hy : a.eval y = .agg vs.toArray)
    (C : List Value) (t : TypeId) (hB : Blk w b C t) (hi : (P.info? ty).map (·.size) = some vs.length) (hn : off + vs.length ≤ C.length) (h1 : Ones vs)
    (h : ∀ w', Blk w' b (putL C off vs) t → w.grownBy w' (some b) → K (a.put o.dst undef) w') : o.wp P a w K Q := by
  obtain ⟨k1, k2⟩ := setCells_blk hB off vs hn
  refine wp_store_mid ty x y ho b off vs.toArray hx hy ?_ (by simpa using hi) h1.arr (by simpa using h _ k1 k2)
  intro j hj
  simp at hj
  exact ⟨by rw [hB.cell, List.getElem?_eq_getElem (by omega)]; rfl, hB.frozen _⟩

/-- One cell is read: as one operation. -/
theorem exec_load1B {P : Program} {o : Oper} {a : Act} {w : World} (ty : TypeId) (x : Operand) (ho : o.op = .load ty x) (b off : Nat) (hx : a.eval x = .pointer (some ⟨b, off, none⟩)) (C : List Value) (t : TypeId) (hB : Blk w b C t)
    (d : TypeDesc) (hu : P.underlying ty = some d) (hd : d.isRow = false) (v : Value) (hv : C[off]? = some v) : (execOp a.eval o).run P w = .ok (.value v) w := by
  have hc : w.cell? ⟨b, off, none⟩ = some v := by rw [hB.cell]; exact hv
  have ha : (isAgg ty).run P w = .ok false w := by
    unfold isAgg
    cases d <;> simp_all [run_underlying hu, TypeDesc.isRow]
  simp [execOp, ho, hx, Instr.loadAt, Instr.sureAddr, loadVar, ha, hc]

/-- The address of an element. -/
theorem exec_indexB {P : Program} {o : Oper} {a : Act} {w : World} (t e : TypeId) (x ix : Operand) (ho : o.op = .indexAddr t x ix) (b off n cap : Nat) (hx : a.eval x = .slice (some ⟨b, off, none⟩) n cap) (k : IntKind) (j : Nat) (hix : a.eval ix = .int k (j : Int)) (hj : j < n)
    (hu : P.underlying t = some (.slice e)) (size : Nat) (hi : (P.info? e).map (·.size) = some size) : (execOp a.eval o).run P w = .ok (.value (.pointer (some ⟨b, off + j * size, none⟩))) w := by
  obtain ⟨i, hi1, hi2⟩ := Option.map_eq_some_iff.1 hi
  have h1 : (0 : Int) ≤ (j : Int) ∧ (j : Int) < (n : Int) := by omega
  have h2 : (⟨b, off, none⟩ : Addr).add (j * size) = ⟨b, off + j * size, none⟩ := Addr.add_mid _ _ _
  simp only [execOp, ho, hx, hix, Instr.indexAt]
  simp [run_underlying hu, sizeOf, typeInfo, hi1, hi2, h2, asIntOf, hj]

theorem wpQuiet_val {P : Program} {ops : Array Oper} {C : World → Prop} {Q : Act → Prop} {o : Oper} {rest : List Oper} {a : Act} (hw : Region.wanted o (yielded ops a.tmps) = true) (v : Value)
    (h : ∀ w, C w → (execOp a.eval o).run P w = .ok (.value v) w) (k : wpQuiet P ops C Q rest (a.put o.dst v)) : wpQuiet P ops C Q (o :: rest) a :=
  wpQuiet_step fun K hK => by
    rw [if_pos hw]
    exact ⟨v, fun w' hw' => by unfold Oper.quietAt; rw [h w' hw']; exact ⟨rfl, rfl⟩, hK _ k⟩
theorem wpQuiet_mv {P : Program} {ops : Array Oper} {C : World → Prop} {Q : Act → Prop} {o : Oper} {rest : List Oper} {a : Act} (x : Operand) (v : Value) (hw : Region.wanted o (yielded ops a.tmps) = true) (hop : o.op = .move x) (hx : a.eval x = v)
    (k : wpQuiet P ops C Q rest (a.put o.dst v)) : wpQuiet P ops C Q (o :: rest) a := wpQuiet_val hw v (fun w _ => by simp [execOp, hop, hx]) k
theorem wpQuiet_callB {P : Program} {ops : Array Oper} {C : World → Prop} {Q : Act → Prop} {o : Oper} {rest : List Oper} {a : Act} (hw : Region.wanted o (yielded ops a.tmps) = true) (v : Value) (f : FuncId) (args : Array Value)
    (hx : ∀ w, (execOp a.eval o).run P w = .ok (.enter f args) w) (h : ∀ w, C w → Calls P f args w fun e w' => e = .returned v ∧ C w') (k : wpQuiet P ops C Q rest (a.put o.dst v)) : wpQuiet P ops C Q (o :: rest) a :=
  wpQuiet_step fun K hK => by
    rw [if_pos hw]
    exact ⟨v, fun w' hw' => by unfold Oper.quietAt; rw [hx w']; exact ⟨rfl, h w' hw'⟩, hK _ k⟩
end Go.Proofs.Qxb6603070aMods.L
