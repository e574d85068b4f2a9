import Derived.Test.Qxb6000998aModsEZz
namespace Go.Proofs.Qxb6000998aMods.E
open Go.RowKit Go.Proofs.Qxb6000998aMods.L

theorem tag_hi (i j : Nat) (hj : j < 4294967296) : tag i j / 4294967296 = (i : Int) := by unfold tag; omega
theorem tag_lo (i j : Nat) (hi : i < 4294967296) (hj : j < 4294967296) : bits .and .u64 (tag i j) 4294967295 = (j : Int) := by
  have h := bits_and_u64_nat (i * 4294967296 + j) 4294967295 (by omega) (by omega)
  have e2 : (i * 4294967296 + j) &&& 4294967295 = j := by
    have h2 := Nat.and_two_pow_sub_one_eq_mod (i * 4294967296 + j) 32
    have e : (2 : Nat) ^ 32 = 4294967296 := by decide
    rw [e] at h2
    refine h2.trans ?_
    omega
  rw [e2] at h
  have e1 : ((i * 4294967296 + j : Nat) : Int) = tag i j := by
    simp only [tag, Int.natCast_add, Int.natCast_mul]
    rfl
  rw [e1] at h
  exact h
theorem tag_pos (i j : Nat) (hi : i < 4294967296) (hj : j < 4294967296) : 0 ≤ tag i j ∧ tag i j < 18446744073709551616 := by unfold tag; omega

theorem flatten_len (O : List (List Int)) : (resE O).flatten.length = total O := by
  rw [List.length_flatten]
  unfold total resE
  congr 1
  apply List.ext_getElem
  · simp
  · intro i h1 h2
    simp [rowE_length]
theorem row_le_total (O : List (List Int)) (row : List Int) (h : row ∈ O) : row.length ≤ total O := by
  unfold total
  induction O with
  | nil => cases h
  | cons r O ih =>
    simp only [List.map_cons, List.sum_cons]
    rcases List.mem_cons.1 h with rfl | h2
    · omega
    · have := ih h2; omega

/-- What is known of the k-th entry of the result. -/
theorem out_facts (O : List (List Int)) (ht : total O ≤ 65536) (k : Nat) (T o : Int) (h : (dd (resE O).flatten)[k]? = some (T, o)) :
    ∃ i j row, O[i]? = some row ∧ row[j]? = some o ∧ T = tag i j ∧ i < O.length ∧ j < row.length ∧ j < 65536 := by
  have hm : (T, o) ∈ (resE O).flatten := (dd_sub _).subset (List.mem_of_getElem? h)
  obtain ⟨i, j, row, o', h1, h2, h3⟩ := mem_flatten_resE hm
  simp only [Prod.mk.injEq] at h3
  obtain ⟨rfl, rfl⟩ := h3
  have l1 := (List.getElem?_eq_some_iff.1 h1).1
  have l2 := (List.getElem?_eq_some_iff.1 h2).1
  have l3 := row_le_total O row (List.mem_of_getElem? h1)
  exact ⟨i, j, row, h1, h2, rfl, l1, l2, by omega⟩
theorem out_rises (O : List (List Int)) (ht : total O ≤ 65536) (k : Nat) (p q : Int × Int) (hp : (dd (resE O).flatten)[k]? = some p) (hq : (dd (resE O).flatten)[k + 1]? = some q) : p.1 < q.1 := by
  have hs := (resE_sorted O (fun row hrow => by have := row_le_total O row hrow; omega)).sublist (dd_sub _)
  rw [List.pairwise_iff_getElem] at hs
  obtain ⟨h1, e1⟩ := List.getElem?_eq_some_iff.1 hp
  obtain ⟨h2, e2⟩ := List.getElem?_eq_some_iff.1 hq
  have := hs k (k + 1) h1 h2 (by omega)
  rwa [e1, e2] at this

/-- The map 'first': owner to tag. -/
def fstOf (acc : List (Int × Int)) : List (Int × Value) := acc.map fun p => (p.2, .int .u64 p.1)
theorem fstOf_snoc (acc : List (Int × Int)) (p : Int × Int) : fstOf (acc ++ [p]) = fstOf acc ++ [(p.2, .int .u64 p.1)] := by simp [fstOf]
theorem fst_some {acc : List (Int × Int)} {o : Int} (h : acc.any (fun q => decide (q.2 = o)) = true) : ∃ T, atKey o (fstOf acc) 0 = some T := by
  obtain ⟨q, hq, hqo⟩ := List.any_eq_true.1 h
  cases hk : atKey o (fstOf acc) 0 with
  | none =>
    rw [atKey_none] at hk
    exact absurd (by simpa using hqo) (hk (q.2, .int .u64 q.1) (List.mem_map.2 ⟨q, hq, rfl⟩))
  | some y => exact ⟨y, rfl⟩
theorem fst_none {acc : List (Int × Int)} {o : Int} (h : acc.any (fun q => decide (q.2 = o)) = false) : atKey o (fstOf acc) 0 = none := by
  rw [atKey_none]
  intro p hp e
  obtain ⟨q, hq, rfl⟩ := List.mem_map.1 hp
  have : acc.any (fun q => decide (q.2 = o)) = true := List.any_eq_true.2 ⟨q, hq, by simpa using e⟩
  rw [this] at h; cases h
theorem fst_at (L : List (Int × Int)) (k : Nat) (T o : Int) (h : (dd L)[k]? = some (T, o)) : atKey o (fstOf (dd L)) 0 = some (k, .int .u64 T) := by
  refine atKey_at _ k o _ ?_ (by simp [fstOf, h])
  unfold fstOf
  rw [List.pairwise_map]
  exact dd_apart L

/-- A quiet region at a class of worlds of the prover's own. -/
theorem wp_region_quietC {P : Program} {id : Nat} {Q : Exit → Act → World → Prop} {a : Act} {w : World} {l : List Oper} (C : World → Prop) (hm : P.follows .mixedOrders = true) (hB : Region.lexB .any l.toArray = true) (hC : C w.drew)
    (h : wpQuiet P l.toArray C (fun a' => ∀ w', C w' → Q .normal a' w') l a) : (Code.region id l.toArray true).wp P Q a w :=
  wp_region_quiet (C := C) hm hB hC (by simpa using h)

/-- A whole array read, as one operation. -/
theorem exec_loadB {P : Program} {o : Oper} {a : Act} {w : World} (ty : TypeId) (x : Operand) (ho : o.op = .load ty x) (b off : Nat) (hx : a.eval x = .pointer (some ⟨b, off, none⟩)) (vs : List Value) (hr : w.rangeAt b off vs)
    (d : TypeDesc) (hu : P.underlying ty = some d) (hd : d.isRow = true) (hi : (P.info? ty).map (·.size) = some vs.length) :
    (execOp a.eval o).run P w = .ok (.value (.agg vs.toArray)) w := by
  have h := run_loadVar_mid (P := P) w b off ty vs d hr hu hd hi
  simp [execOp, ho, hx, Instr.loadAt, Instr.sureAddr, h]
/-- '!=' of two arrays, as one operation. -/
theorem exec_neq {P : Program} {o : Oper} {a : Act} {w : World} (t : TypeId) (x y : Operand) (u : TypeId) (ho : o.op = .binOp .neq t x y u) (xs ys : Array Value) (hx : a.eval x = .agg xs) (hy : a.eval y = .agg ys) (r : Bool)
    (h : (binOp .neq t (.agg xs) (.agg ys)).run P w = .ok (.bool r) w) (hg : P.eqGuardType P.depth t = false) : (execOp a.eval o).run P w = .ok (.value (.bool r)) w := by
  simp [execOp, ho, hx, hy, eqGuard, hg, h]
theorem neq_key (o : Int) (w : World) : (binOp .neq 22 (.agg (keyC o).toArray) (.agg (keyC o).toArray)).run Trym.prog w = .ok (.bool false) w := by
  have h := run_neq_arr (P := Trym.prog) w 22 5 32 .u8 Trym.underlying22 Trym.underlying5 Trym.size5 (keyI o) (keyI o) (keyI_length o) (keyI_length o)
  unfold keyC
  rw [h]
  simp
theorem guard22 : Trym.prog.eqGuardType Trym.prog.depth 22 = false := by kernel_rfl
theorem exec_field {o : Oper} {a : Act} {w : World} (x : Operand) (ho : o.op = .fieldAddr 58 x 0) (b off : Nat) (hx : a.eval x = .pointer (some ⟨b, off, none⟩)) : (execOp a.eval o).run Trym.prog w = .ok (.value (.pointer (some ⟨b, off, none⟩))) w := by
  have h : (Instr.fieldAt 58 (.pointer (some ⟨b, off, none⟩)) 0).run Trym.prog w = .ok (.pointer (some ⟨b, off, none⟩)) w := by kernel_rfl
  simp only [execOp, ho, hx]
  simp [h]
end Go.Proofs.Qxb6000998aMods.E
