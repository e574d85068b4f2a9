import Derived.Test.Qxb6603070aModsMSameLocs
import Derived.Test.Qxb6603070aModsMGroup
namespace Go.Proofs.Qxb6603070aMods.M
open Go.RowKit Go.Proofs.Qxb6603070aMods.L

theorem own_all {w w' : World} {base : Nat} {e : TypeId} {size : Nat} {v : Value} {n : Nat} {xs : List Value} (h : w.ownsRow base e size v n xs) (b : Below w.heap.size w w') : w'.ownsRow base e size v n xs := by
  refine ⟨h.1, ?_⟩
  rcases h.2 with hn | ⟨g, cap, cur, rfl, hb, hgg, rest⟩
  · exact .inl hn
  · exact .inr ⟨g, cap, cur, rfl, hb, by rw [b.block g (Array.getElem?_eq_some_iff.1 hgg).1]; exact hgg, rest⟩
theorem own_base {w : World} {base base' : Nat} {e : TypeId} {size : Nat} {v : Value} {n : Nat} {xs : List Value} (h : w.ownsRow base e size v n xs) (b : base' ≤ base) : w.ownsRow base' e size v n xs := by
  refine ⟨h.1, ?_⟩
  rcases h.2 with hn | ⟨g, cap, cur, rfl, hb, rest⟩
  · exact .inl hn
  · exact .inr ⟨g, cap, cur, rfl, Nat.le_trans b hb, rest⟩
/-- A map's block is no row's. -/
theorem own_not_map {α : Type} {w : World} {base : Nat} {e : TypeId} {size : Nat} {v : Value} {n : Nat} {xs : List Value} {m : Nat} {K : α → Value} {kv : List (α × Value)} (h : w.ownsRow base e size v n xs) (hm : MapB w m K kv) : v.ownBlock ≠ some m := by
  intro e
  obtain ⟨es, c, hm, _⟩ := hm
  rcases h.2 with ⟨rfl, _⟩ | ⟨g, cap, cur, rfl, hb, hgg, rest⟩
  · simp [Value.ownBlock] at e
  · simp [Value.ownBlock] at e
    subst e
    rw [hgg] at hm
    cases hm
theorem own_grown {w w' : World} {base : Nat} {e : TypeId} {size : Nat} {v : Value} {n : Nat} {xs : List Value} {row : Option Nat} (h : w.ownsRow base e size v n xs) (g : w.grownBy w' row) (hne : v.ownBlock = none ∨ v.ownBlock ≠ row) : w'.ownsRow base e size v n xs := h.kept g hne
theorem blk_not_map {α : Type} {w : World} {b : Nat} {C : List Value} {t : TypeId} {m : Nat} {K : α → Value} {kv : List (α × Value)} (h : Blk w b C t) (hm : MapB w m K kv) : some b ≠ some m := by
  intro e
  cases e
  obtain ⟨es, c, hm, _⟩ := hm
  unfold Blk at h
  rw [h] at hm
  cases hm

/-- '[]T{x}': a new block. -/
theorem wpList_buildSliceB {P : Program} {ops : Array Oper} {rest : List Oper} {o : Oper} {a : Act} {w : World} {Q : Exit → Act → World → Prop} (hgd : o.guard = none) (t e : TypeId) (x : Operand) (ho : o.op = .buildSlice t 1 #[(0, x)]) (C : List Value) (hx : a.eval x = .agg C.toArray)
    (ht : P.underlying t = some (.slice e)) (Z : List Value) (size : Nat) (hz : (P.info? e).map (fun i => (i.zero, i.size)) = some (some (.agg Z.toArray), size)) (hZ : Z.length = size) (hC : C.length = size) (hs : 0 < size) (hs2 : size ≤ 16777216)
    (h : ∀ g w', w.heap.size ≤ g → Blk w' g C e → w.grownBy w' none → wpList P ops Q rest (a.put o.dst (.slice (some ⟨g, 0, none⟩) 1 1)) w') : wpList P ops Q (o :: rest) a w := by
  refine wpList_val hgd (v := .slice (some ⟨w.heap.size, 0, none⟩) 1 1) (w' := w.alloc (.cells C.toArray e)) ?_ (h w.heap.size _ (Nat.le_refl _) (heap_alloc_new w _) (World.grownBy_alloc w _ none))
  obtain ⟨i, hi, hi2⟩ := Option.map_eq_some_iff.1 hz
  simp only [Prod.mk.injEq] at hi2
  have hne : ¬ size = 0 := by omega
  have hf : Instr.fill (fun i => some (i * size, size)) ((Array.range (1 * size)).map (fun j => Z.toArray[j % Z.toArray.size]!)) [(0, .agg C.toArray)] = some C.toArray := by
    have e1 : ((Array.range (1 * size)).map (fun j => Z.toArray[j % Z.toArray.size]!)) = Z.toArray := by
      apply Array.ext
      · simp [hZ]
      · intro j h1 h2
        simp at h1 h2
        simp [Nat.mod_eq_of_lt h2, h2]
    rw [e1, fill_cons _ Z 0 _ _ 0 C rfl (by simp [hC]) (by omega), fill_nil]
    unfold putL
    rw [List.take_zero, List.nil_append, List.drop_of_length_le (by omega), List.append_nil]
  simp only [execOp, ho]
  simp only [Instr.buildSlice, Sem.run_bind, run_underlying ht, Result.andThen_ok, sizeOf, typeInfo, zeroValue]
  have hs3 : ¬ (1 * size > 2 ^ 24) := by omega
  simp [hi, hi2, hx, Value.cells, hne] at hf ⊢
  have hs4 : ¬ (16777216 < size) := by omega
  simp [hs4, hf, newRow, newObj]
  rfl
end Go.Proofs.Qxb6603070aMods.M
