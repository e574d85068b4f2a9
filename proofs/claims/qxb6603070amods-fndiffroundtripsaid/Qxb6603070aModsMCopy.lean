/-
  'copy' of elements of more than one cell, whole row over whole row. Nothing here names the dump.
-/
import Derived.Test.Qxb6603070aModsHeld
import Derived.Laws.CopyOwn
namespace Go.Proofs.Qxb6603070aMods.L
open Go.RowKit

theorem setRow_blk {w : World} {g : Nat} {cur cs : List Value} {t : TypeId} (hB : Blk w g cur t) : Blk (w.setRow g cs.toArray) g cs t ∧ w.grownBy (w.setRow g cs.toArray) (some g) := by
  refine ⟨?_, ⟨rfl, rfl, rfl, by simp [World.setRow], fun k _ hk => setRow_other w g k _ (fun e => hk (by rw [e]))⟩⟩
  unfold Blk at hB ⊢
  exact setRow_heap w g cur.toArray _ t _ hB

theorem run_copy_wide {P : Program} (w : World) (dT sT ty elem : TypeId) (gd gs n : Nat) (cur cs : List Value) (t : TypeId) (size : Nat) (hu : P.underlying dT = some (.slice elem)) (hs : (P.info? elem).map (·.size) = some size)
    (hB : Blk w gd cur t) (c : Nat) (hS : w.rangeAt gs 0 cs) (hcs : cs.length = n * size) (hcur : cur.length = cs.length) (h1 : Ones cs) :
    (Builtin.copy_ #[dT, sT] ty #[.slice (some ⟨gd, 0, none⟩) n n, .slice (some ⟨gs, 0, none⟩) n c]).run P w = .ok (goInt n) (w.setRow gd cs.toArray) := by
  have hl := run_loadCells_list (P := P) w ⟨gs, 0, none⟩ cs (fun j v hv => by rw [Addr.add_lit]; exact hS j v hv)
  have hst := run_storeCells_at P gd 0 t cs 0 cur.toArray w hB (by simp; omega) h1
  have e : (cur.toArray.toList.take (0 + 0) ++ cs ++ cur.toArray.toList.drop (0 + 0 + cs.length)) = cs := by
    simp [List.drop_of_length_le (Nat.le_of_eq hcur)]
  rw [e] at hst
  cases hq : P.info? elem with
  | none => simp [hq] at hs
  | some i =>
    have hi : i.size = size := by simpa [hq] using hs
    have hmin : Nat.min n n = n := Nat.min_self n
    simp [Builtin.copy_, run_underlying hu, Builtin.lenOf, Builtin.firstCells, sizeOf, typeInfo, hq, hi, ← hcs, hl, hst]

section
variable {P : Program} {ops : Array Oper} {rest : List Oper} {o : Oper} {a : Act} {w : World} {Q : Exit → Act → World → Prop}
theorem wpList_copyW (hgd : o.guard = none) (d s : Operand) (dT sT : TypeId) (ho : o.op = .call { callee := .builtin .copy, args := #[d, s], argTypes := #[dT, sT] }) (elem : TypeId) (hu : P.underlying dT = some (.slice elem)) (size : Nat) (hs : (P.info? elem).map (·.size) = some size)
    (gd gs n c : Nat) (hd : a.eval d = .slice (some ⟨gd, 0, none⟩) n n) (hsv : a.eval s = .slice (some ⟨gs, 0, none⟩) n c) (cur cs : List Value) (t : TypeId) (hB : Blk w gd cur t) (hS : w.rangeAt gs 0 cs) (hcs : cs.length = n * size) (hcur : cur.length = cs.length) (h1 : Ones cs)
    (h : ∀ w', Blk w' gd cs t → w.grownBy w' (some gd) → wpList P ops Q rest (a.put o.dst (goInt n)) w') : wpList P ops Q (o :: rest) a w := by
  refine wpList_plain hgd fun K hK => ?_
  have hrun := run_copy_wide (P := P) w dT sT o.type elem gd gs n cur cs t size hu hs hB c hS hcs hcur h1
  obtain ⟨k1, k2⟩ := setRow_blk (cs := cs) hB
  unfold Oper.wp
  simp [execOp, ho, resolve, invoke, builtin, hd, hsv, hrun, Result.andThen]
  exact hK _ _ (h _ k1 k2)
theorem wpList_copyNil (hgd : o.guard = none) (d s : Operand) (dT sT : TypeId) (ho : o.op = .call { callee := .builtin .copy, args := #[d, s], argTypes := #[dT, sT] }) (elem : TypeId) (hu : P.underlying dT = some (.slice elem)) (hs : ((P.info? elem).map (·.size)).isSome = true)
    (ad : Addr) (n c : Nat) (hd : a.eval d = .slice (some ad) n c) (hsv : a.eval s = .slice none 0 0) (h : wpList P ops Q rest (a.put o.dst (goInt 0)) w) : wpList P ops Q (o :: rest) a w := by
  refine wpList_plain hgd fun K hK => ?_
  have hrun := run_copy_nil (P := P) w dT sT o.type elem ad n c hu hs
  unfold Oper.wp
  simp [execOp, ho, resolve, invoke, builtin, hd, hsv, hrun, Result.andThen]
  exact hK _ _ h
end
end Go.Proofs.Qxb6603070aMods.L
