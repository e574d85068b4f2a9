import Derived.Test.Qxb6603070aModsMOwn
import Derived.Test.Qxb6603070aModsMFork
import Derived.Deep.DeepAppendWide
namespace Go.Proofs.Qxb6603070aMods.M
open Go.RowKit Go.Proofs.Qxb6603070aMods.L

/-- One value yielded, as one operation. -/
theorem wp_val {P : Program} {o : Oper} {a : Act} {w w' : World} {K : Act → World → Prop} {Q : Exit → Act → World → Prop} {v : Value} (h : (execOp a.eval o).run P w = .ok (.value v) w') (k : K (a.put o.dst v) w') : o.wp P a w K Q := by
  unfold Oper.wp
  rw [h]
  exact k
/-- A store into a map, as one operation. -/
theorem wp_updateB {P : Program} {o : Oper} {a : Act} {w : World} {K' : Act → World → Prop} {Q : Exit → Act → World → Prop} {α : Type} [DecidableEq α] {K : α → Value} (t : TypeId) (mo xo vo : Operand) (ho : o.op = .mapUpdate t mo xo vo) (kt et : TypeId) (ht : P.underlying t = some (.map kt et)) (hk : Keys P kt K)
    (m : Nat) (hmo : a.eval mo = .map (some m)) (kv : List (α × Value)) (hm : MapB w m K kv) (x : α) (hx : a.eval xo = K x) (v : Value) (hv : a.eval vo = v)
    (h : ∀ w', MapB w' m K (match atKey x kv 0 with | some y => kv.set y.1 (x, v) | none => kv ++ [(x, v)]) → w.grownBy w' (some m) → K' (a.put o.dst undef) w') : o.wp P a w K' Q := by
  obtain ⟨w', hr, h1, h2⟩ := run_updateB (w := w) ht hk hm x v
  unfold Oper.wp
  simp only [execOp, ho, hmo, hx, hv]
  simp [hr, Result.andThen]
  exact h w' h1 h2
/-- A slice of one struct is built, as one operation. -/
theorem exec_buildSliceB {P : Program} {o : Oper} {a : Act} {w : World} (t e : TypeId) (x : Operand) (ho : o.op = .buildSlice t 1 #[(0, x)]) (C : List Value) (hx : a.eval x = .agg C.toArray)
    (ht : P.underlying t = some (.slice e)) (Z : List Value) (size : Nat) (hz : (P.info? e).map (fun i => (i.zero, i.size)) = some (some (.agg Z.toArray), size)) (hZ : Z.length = size) (hC : C.length = size) (hs : 0 < size) (hs2 : size ≤ 16777216) :
    (execOp a.eval o).run P w = .ok (.value (.slice (some ⟨w.heap.size, 0, none⟩) 1 1)) (w.alloc (.cells C.toArray e)) := by
  obtain ⟨i, hi, hi2⟩ := Option.map_eq_some_iff.1 hz
  simp only [Prod.mk.injEq] at hi2
  have hne : ¬ size = 0 := by omega
  have hf : Instr.fill (fun i => some (i * size, size)) ((Array.range (1 * size)).map (fun j => Z.toArray[j % Z.toArray.size]!)) [(0, .agg C.toArray)] = some C.toArray := by
    have e1 : ((Array.range (1 * size)).map (fun j => Z.toArray[j % Z.toArray.size]!)) = Z.toArray := by
      apply Array.ext
      · simp [hZ]
      · intro j h1 h2
        simp at h1 h2
        simp [Nat.mod_eq_of_lt h2, h2]
    rw [e1, fill_cons _ Z 0 _ _ 0 C rfl (by simp [hC]) (by omega), fill_nil]
    unfold putL
    rw [List.take_zero, List.nil_append, List.drop_of_length_le (by omega), List.append_nil]
  simp only [execOp, ho]
  simp only [Instr.buildSlice, Sem.run_bind, run_underlying ht, Result.andThen_ok, sizeOf, typeInfo, zeroValue]
  have hs3 : ¬ (1 * size > 2 ^ 24) := by omega
  simp [hi, hi2, hx, Value.cells, hne] at hf ⊢
  have hs4 : ¬ (16777216 < size) := by omega
  simp [hs4, hf, newRow, newObj]
  rfl
end Go.Proofs.Qxb6603070aMods.M
