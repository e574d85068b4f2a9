/-
  Laws of the walk over whole blocks, for values of many cells (arrays, structs): no program of its own: nothing here names the dump.
-/
import Derived.WalkKit
import Derived.ProofKit
import Derived.Below
import Derived.Deep.MidRow
import Derived.Laws.StructEq
import Derived.Deep.Quiet
namespace Go.Proofs.Qxb6603070aMods.L
open Go.RowKit

/-- Block b of the world is a row of the cells C, of type t, none of them frozen. -/
def Blk (w : World) (b : Nat) (C : List Value) (t : TypeId) : Prop := w.heap[b]? = some (.cells C.toArray t (0, 0))

theorem Blk.lt {w : World} {b : Nat} {C : List Value} {t : TypeId} (h : Blk w b C t) : b < w.heap.size := (Array.getElem?_eq_some_iff.1 h).1
theorem Blk.cell {w : World} {b : Nat} {C : List Value} {t : TypeId} (h : Blk w b C t) (j : Nat) : w.cell? ⟨b, j, none⟩ = C[j]? := by
  rw [cell_of_row w b j C.toArray t (0, 0) h]; simp
theorem Blk.frozen {w : World} {b : Nat} {C : List Value} {t : TypeId} (h : Blk w b C t) (j : Nat) : w.frozen? ⟨b, j, none⟩ = false := frozen_of_row w b j C.toArray t h
theorem Blk.grown {w w' : World} {row : Option Nat} {b : Nat} {C : List Value} {t : TypeId} (h : Blk w b C t) (g : w.grownBy w' row) (hne : some b ≠ row) : Blk w' b C t := by
  unfold Blk; rw [g.block b h.lt hne]; exact h
theorem Blk.kept {w w' : World} {b : Nat} {C : List Value} {t : TypeId} (h : Blk w b C t) (g : w.grownBy w' none) : Blk w' b C t := h.grown g (by simp)
theorem Blk.below {w w' : World} {B b : Nat} {C : List Value} {t : TypeId} (h : Blk w b C t) (g : Below B w w') (hb : b < B) : Blk w' b C t := by
  unfold Blk; rw [g.block b hb]; exact h
theorem Blk.all {w w' : World} {b : Nat} {C : List Value} {t : TypeId} (h : Blk w b C t) (g : Below w.heap.size w w') : Blk w' b C t := h.below g h.lt
theorem Blk.drew {w : World} {b : Nat} {C : List Value} {t : TypeId} (h : Blk w b C t) (n : Nat) : Blk (w.drewN n) b C t := by
  unfold Blk at *
  induction n generalizing w with
  | zero => exact h
  | succ n ih => exact ih (w := w.drew) h
theorem Blk.range {w : World} {b : Nat} {C : List Value} {t : TypeId} (h : Blk w b C t) (o n : Nat) : w.rangeAt b o ((C.drop o).take n) := by
  intro j v hv
  rw [h.cell]
  rw [List.getElem?_take] at hv
  split at hv
  · rwa [List.getElem?_drop] at hv
  · cases hv

theorem grownBelow {w w' : World} (g : w.grownBy w' none) : Below w.heap.size w w' := (Below.refl _ _).grown g (Nat.le_refl _) (fun k h => by cases h)

/-- C with vs laid over it from o on. -/
def putL (C : List Value) (o : Nat) (vs : List Value) : List Value := C.take o ++ vs ++ C.drop (o + vs.length)

theorem putL_length {C : List Value} {o : Nat} {vs : List Value} (h : o + vs.length ≤ C.length) : (putL C o vs).length = C.length := by simp [putL]; omega
theorem putL_same {C : List Value} {o : Nat} {vs : List Value} (h : o + vs.length ≤ C.length) : ((putL C o vs).drop o).take vs.length = vs := by
  unfold putL
  rw [List.append_assoc, List.drop_append_of_le_length (by simp; omega)]
  have : (C.take o).drop o = [] := by simp
  rw [this, List.nil_append, List.take_append_of_le_length (Nat.le_refl _), List.take_length]
theorem putL_get {C : List Value} {o : Nat} {vs : List Value} (h : o + vs.length ≤ C.length) (i : Nat) : (putL C o vs)[i]? = if o ≤ i ∧ i < o + vs.length then vs[i - o]? else C[i]? := by
  unfold putL
  by_cases h1 : i < o
  · rw [if_neg (by omega), List.append_assoc, List.getElem?_append_left (by simp; omega), List.getElem?_take, if_pos h1]
  · by_cases h2 : i < o + vs.length
    · rw [if_pos (by omega), List.getElem?_append_left (by simp; omega), List.getElem?_append_right (by simp; omega)]
      congr 1
      simp; omega
    · rw [if_neg (by omega), List.getElem?_append_right (by simp; omega), List.getElem?_drop]
      congr 1
      simp; omega
theorem putL_apart {C : List Value} {o : Nat} {vs : List Value} (h : o + vs.length ≤ C.length) (o' n : Nat) (hap : o' + n ≤ o ∨ o + vs.length ≤ o') : ((putL C o vs).drop o').take n = (C.drop o').take n := by
  apply List.ext_getElem?
  intro i
  rw [List.getElem?_take, List.getElem?_take, List.getElem?_drop, List.getElem?_drop]
  by_cases hi : i < n
  · rw [if_pos hi, if_pos hi, putL_get h, if_neg (by omega)]
  · rw [if_neg hi, if_neg hi]
theorem putL_other {C : List Value} {o : Nat} {vs : List Value} (h : o + vs.length ≤ C.length) (i : Nat) (hap : i < o ∨ o + vs.length ≤ i) : (putL C o vs)[i]? = C[i]? := by
  rw [putL_get h, if_neg (by omega)]
theorem putL_one {C : List Value} {o : Nat} {v : Value} (h : o < C.length) : (putL C o [v])[o]? = some v := by
  rw [putL_get (by simp; omega), if_pos (by simp)]; simp
theorem putL_single (C : List Value) (o : Nat) (v : Value) (h : o < C.length) : putL C o [v] = C.set o v := by
  apply List.ext_getElem?
  intro i
  rw [putL_get (by simp; omega), List.getElem?_set]
  by_cases hi : o = i
  · subst hi; simp [h]
  · rw [if_neg (by simp; omega), if_neg hi]

/-- Each value is one cell. -/
def Ones (C : List Value) : Prop := ∀ v ∈ C, v.oneCell' = true
theorem Ones.put {C : List Value} {o : Nat} {vs : List Value} (h : Ones C) (k : Ones vs) : Ones (putL C o vs) := by
  intro v hv
  unfold putL at hv
  rcases List.mem_append.1 hv with h1 | h1
  · rcases List.mem_append.1 h1 with h2 | h2
    · exact h v (List.mem_of_mem_take h2)
    · exact k v h2
  · exact h v (List.mem_of_mem_drop h1)
theorem Ones.ints (k : IntKind) (zs : List Int) : Ones (zs.map (Value.int k)) := ints_oneCell k zs
theorem Ones.sub {C : List Value} (h : Ones C) (o n : Nat) : Ones ((C.drop o).take n) := fun v hv => h v (List.mem_of_mem_drop (List.mem_of_mem_take hv))
theorem Ones.append {C D : List Value} (h : Ones C) (k : Ones D) : Ones (C ++ D) := fun v hv => (List.mem_append.1 hv).elim (h v) (k v)
theorem Ones.arr {C : List Value} (h : Ones C) : C.toArray.all (·.oneCell') = true := all_oneCell_toArray h
theorem ones_one {v : Value} (h : v.oneCell' = true) : Ones [v] := by intro u hu; simp at hu; subst hu; exact h

section
variable {P : Program} {ops : Array Oper} {rest : List Oper} {o : Oper} {a : Act} {w : World} {Q : Exit → Act → World → Prop}

/-- An operation that yields a value. -/
theorem wpList_val (hgd : o.guard = none) {v : Value} {w' : World} (h : (execOp a.eval o).run P w = .ok (.value v) w') (k : wpList P ops Q rest (a.put o.dst v) w') : wpList P ops Q (o :: rest) a w := by
  refine wpList_plain hgd fun K hK => ?_
  unfold Oper.wp
  rw [h]
  exact hK _ _ k

/-- A variable is boxed: a new block. -/
theorem wpList_boxB (hgd : o.guard = none) (t : TypeId) (x : Operand) (ho : o.op = .box t x) (v : Value) (C : List Value) (hx : a.eval x = v) (hC : v.cells = C.toArray)
    (h : ∀ g w', w.heap.size ≤ g → Blk w' g C t → w.grownBy w' none → wpList P ops Q rest (a.put o.dst (.pointer (some ⟨g, 0, none⟩))) w') : wpList P ops Q (o :: rest) a w := by
  refine wpList_val hgd (v := .pointer (some ⟨w.heap.size, 0, none⟩)) (w' := w.alloc (.cells C.toArray t)) ?_ (h w.heap.size _ (Nat.le_refl _) (heap_alloc_new w _) (World.grownBy_alloc w _ none))
  simp [execOp, ho, hx, Instr.box, newVar, newRow, newObj, hC]
  rfl

/-- A new variable, its zero value in it. -/
theorem wpList_allocB (hgd : o.guard = none) (t : TypeId) (ho : o.op = .alloc t) (z : Value) (C : List Value) (hz : (P.info? t).map (·.zero) = some (some z)) (hC : z.cells = C.toArray)
    (h : ∀ g w', w.heap.size ≤ g → Blk w' g C t → w.grownBy w' none → wpList P ops Q rest (a.put o.dst (.pointer (some ⟨g, 0, none⟩))) w') : wpList P ops Q (o :: rest) a w := by
  refine wpList_val hgd (v := .pointer (some ⟨w.heap.size, 0, none⟩)) (w' := w.alloc (.cells C.toArray t)) ?_ (h w.heap.size _ (Nat.le_refl _) (heap_alloc_new w _) (World.grownBy_alloc w _ none))
  obtain ⟨i, hi, hi2⟩ := Option.map_eq_some_iff.1 hz
  simp [execOp, ho, Instr.alloc, zeroValue, typeInfo, hi, hi2, newVar, newRow, newObj, hC]
  rfl

/-- A whole array or struct is read out of a block. -/
theorem wpList_loadB (hgd : o.guard = none) (ty : TypeId) (x : Operand) (ho : o.op = .load ty x) (b off : Nat) (hx : a.eval x = .pointer (some ⟨b, off, none⟩)) (C : List Value) (t : TypeId) (n : Nat) (hB : Blk w b C t)
    (d : TypeDesc) (hu : P.underlying ty = some d) (hd : d.isRow = true) (hi : (P.info? ty).map (·.size) = some n) (hn : off + n ≤ C.length)
    (h : wpList P ops Q rest (a.put o.dst (.agg ((C.drop off).take n).toArray)) w) : wpList P ops Q (o :: rest) a w :=
  wpList_load_mid hgd ty x ho b off hx ((C.drop off).take n) d (hB.range off n) hu hd (by rw [hi]; congr 1; simp; omega) h

/-- One cell is read out of a block. -/
theorem wpList_load1B (hgd : o.guard = none) (ty : TypeId) (x : Operand) (ho : o.op = .load ty x) (b off : Nat) (hx : a.eval x = .pointer (some ⟨b, off, none⟩)) (C : List Value) (t : TypeId) (hB : Blk w b C t)
    (d : TypeDesc) (hu : P.underlying ty = some d) (hd : d.isRow = false) (v : Value) (hv : C[off]? = some v)
    (h : wpList P ops Q rest (a.put o.dst v) w) : wpList P ops Q (o :: rest) a w := by
  refine wpList_val hgd (v := v) (w' := w) ?_ h
  have hc : w.cell? ⟨b, off, none⟩ = some v := by rw [hB.cell]; exact hv
  have ha : (isAgg ty).run P w = .ok false w := by
    unfold isAgg
    cases d <;> simp_all [run_underlying hu, TypeDesc.isRow]
  simp [execOp, ho, hx, Instr.loadAt, Instr.sureAddr, loadVar, ha, hc]

theorem setCells_blk {w : World} {b : Nat} {C : List Value} {t : TypeId} (hB : Blk w b C t) (off : Nat) (vs : List Value) (hn : off + vs.length ≤ C.length) :
    Blk (w.setCells b off vs) b (putL C off vs) t ∧ w.grownBy (w.setCells b off vs) (some b) := by
  induction vs generalizing w C off with
  | nil =>
    refine ⟨?_, ⟨rfl, rfl, rfl, Nat.le_refl _, fun _ _ _ => rfl⟩⟩
    have : putL C off [] = C := by simp [putL]
    rw [this]; exact hB
  | cons v vs ih =>
    have h1 : Blk (w.setCell ⟨b, off, none⟩ v) b (C.set off v) t := by
      have := heap_setCell_same w b off C.toArray t v hB
      unfold Blk
      rw [this]
      simp
    obtain ⟨i1, i2⟩ := ih h1 (off + 1) (by simp at hn ⊢; omega)
    refine ⟨?_, ?_⟩
    · show Blk ((w.setCell ⟨b, off, none⟩ v).setCells b (off + 1) vs) b (putL C off (v :: vs)) t
      have e : putL C off (v :: vs) = putL (C.set off v) (off + 1) vs := by
        simp only [List.length_cons] at hn
        apply List.ext_getElem?
        intro i
        rw [putL_get (by simp; omega), putL_get (by simp; omega), List.getElem?_set]
        by_cases h : off = i
        · subst h
          rw [if_pos (by simp), if_neg (by omega), if_pos rfl, if_pos (by omega)]
          simp
        · by_cases h2 : off ≤ i ∧ i < off + (v :: vs).length
          · rw [if_pos h2, if_pos (by simp at h2; omega)]
            have e : i - off = (i - (off + 1)) + 1 := by omega
            rw [e, List.getElem?_cons_succ]
          · rw [if_neg h2, if_neg (by simp at h2; omega), if_neg h]
      rw [e]; exact i1
    · have g1 : w.grownBy (w.setCell ⟨b, off, none⟩ v) (some b) := ⟨rfl, rfl, rfl, by simp, fun k _ hk => heap_setCell_other w ⟨b, off, none⟩ k v (fun e => hk (by simp [e]))⟩
      exact ⟨i2.os.trans g1.os, i2.tape.trans g1.tape, i2.output.trans g1.output, Nat.le_trans g1.size i2.size, fun k hk hn => (i2.block k (Nat.lt_of_lt_of_le hk g1.size) hn).trans (g1.block k hk hn)⟩

/-- A whole array or struct is stored into a block. -/
theorem wpList_storeB (hgd : o.guard = none) (ty : TypeId) (x y : Operand) (ho : o.op = .store ty x y) (b off : Nat) (hx : a.eval x = .pointer (some ⟨b, off, none⟩)) (vs : List Value) (hy : a.eval y = .agg vs.toArray)
    (C : List Value) (t : TypeId) (hB : Blk w b C t) (hi : (P.info? ty).map (·.size) = some vs.length) (hn : off + vs.length ≤ C.length) (h1 : Ones vs)
    (h : ∀ w', Blk w' b (putL C off vs) t → w.grownBy w' (some b) → wpList P ops Q rest (a.put o.dst undef) w') : wpList P ops Q (o :: rest) a w := by
  obtain ⟨k1, k2⟩ := setCells_blk hB off vs hn
  refine wpList_store_mid hgd ty x y ho b off vs.toArray hx hy ?_ (by simpa using hi) h1.arr (by simpa using h _ k1 k2)
  intro j hj
  simp at hj
  exact ⟨by rw [hB.cell, List.getElem?_eq_getElem (by omega)]; rfl, hB.frozen _⟩

/-- One cell is stored into a block. -/
theorem wpList_store1B (hgd : o.guard = none) (ty : TypeId) (x y : Operand) (ho : o.op = .store ty x y) (b off : Nat) (hx : a.eval x = .pointer (some ⟨b, off, none⟩)) (v : Value) (hy : a.eval y = v) (hv : v.cells = #[v]) (h1 : v.oneCell' = true)
    (C : List Value) (t : TypeId) (hB : Blk w b C t) (hi : (P.info? ty).map (·.size) = some 1) (hn : off < C.length)
    (h : ∀ w', Blk w' b (C.set off v) t → w.grownBy w' (some b) → wpList P ops Q rest (a.put o.dst undef) w') : wpList P ops Q (o :: rest) a w := by
  obtain ⟨k1, k2⟩ := setCells_blk hB off [v] (by simp; omega)
  rw [putL_single _ _ _ hn] at k1
  refine wpList_plain hgd fun K hK => ?_
  have e : storeVar ty ⟨b, off, none⟩ v = storeVar ty ⟨b, off, none⟩ (.agg #[v]) := by unfold storeVar; rw [hv]; rfl
  have hr : (storeVar ty ⟨b, off, none⟩ v).run P w = .ok () (w.setCells b off [v]) := by
    rw [e]
    exact run_storeVar_mid w b off ty #[v] (fun j hj => by
      have : j = 0 := by simp at hj; omega
      subst this
      exact ⟨by rw [hB.cell, List.getElem?_eq_getElem (by omega)]; rfl, hB.frozen _⟩) (by simpa using hi) (by simpa using h1)
  unfold Oper.wp
  simp [execOp, ho, hx, hy, Instr.storeAt, Instr.sureAddr, hr, Result.andThen]
  exact hK _ _ (h _ k1 k2)
end

/-! ### Structs and arrays built by a literal -/
theorem foldl_put (vs : List Value) : ∀ (C : Array Value) (off k : Nat), (vs.zipIdx k).foldl (fun cs (x : Value × Nat) => cs.setIfInBounds (off + x.2) x.1) C = (((C.toList).take (off + k)) ++ (vs.take (C.size - (off + k))) ++ C.toList.drop (off + k + vs.length)).toArray := by
  induction vs with
  | nil => intro C off k; simp
  | cons v vs ih =>
    intro C off k
    rw [List.zipIdx_cons, List.foldl_cons, ih]
    apply Array.toList_inj.1
    simp only [Array.toList_setIfInBounds, Array.size_setIfInBounds]
    by_cases h : off + k < C.size
    · have e1 : C.size - (off + k) = (C.size - (off + (k + 1))) + 1 := by omega
      rw [e1, List.take_succ_cons]
      have h2 : off + k < C.toList.length := by simpa using h
      have e2 : (C.toList.set (off + k) v).take (off + (k + 1)) = C.toList.take (off + k) ++ [v] := by
        rw [← Nat.add_assoc, List.take_succ_eq_append_getElem (by simpa using h), List.take_set, List.set_eq_of_length_le (by simp; omega)]
        simp
      have e3 : (C.toList.set (off + k) v).drop (off + (k + 1) + vs.length) = C.toList.drop (off + k + (v :: vs).length) := by
        rw [List.drop_set_of_lt (by omega)]
        congr 1
        simp; omega
      rw [e2, e3]
      simp
    · have e0 : C.toList.set (off + k) v = C.toList := List.set_eq_of_length_le (by simpa using h)
      have e1 : C.size - (off + k) = 0 := by omega
      have e2 : C.size - (off + (k + 1)) = 0 := by omega
      rw [e0, e1, e2]
      have e3 : C.toList.take (off + (k + 1)) = C.toList := List.take_of_length_le (by simp; omega)
      have e4 : C.toList.take (off + k) = C.toList := List.take_of_length_le (by simp; omega)
      have e5 : C.toList.drop (off + (k + 1) + vs.length) = [] := List.drop_of_length_le (by simp; omega)
      have e6 : C.toList.drop (off + k + (v :: vs).length) = [] := List.drop_of_length_le (by simp; omega)
      rw [e3, e4, e5, e6]
      simp

theorem fill_cons (place : Nat → Option (Nat × Nat)) (C : List Value) (i : Nat) (v : Value) (rest : List (Nat × Value)) (off : Nat) (vs : List Value) (hv : v.cells = vs.toArray) (hp : place i = some (off, vs.length)) (hn : off + vs.length ≤ C.length) :
    Instr.fill place C.toArray ((i, v) :: rest) = Instr.fill place (putL C off vs).toArray rest := by
  rw [Instr.fill, hp]
  have h1 : (decide (v.cells.size ≠ vs.length) || decide (off + v.cells.size > C.toArray.size)) = false := by simp [hv]; omega
  simp only [h1]
  have h2 := foldl_put vs C.toArray off 0
  rw [if_neg (by simp)]
  congr 1
  rw [hv]
  have e : (vs.toArray.zipIdx).foldl (fun cs (x : Value × Nat) => cs.setIfInBounds (off + x.2) x.1) C.toArray = (vs.zipIdx 0).foldl (fun cs (x : Value × Nat) => cs.setIfInBounds (off + x.2) x.1) C.toArray := by simp
  refine e.trans (h2.trans ?_)
  unfold putL
  have e3 : vs.take (C.toArray.size - (off + 0)) = vs := List.take_of_length_le (by simp; omega)
  rw [e3]
  simp

theorem fill_nil (place : Nat → Option (Nat × Nat)) (C : List Value) : Instr.fill place C.toArray [] = some C.toArray := rfl

/-- The places of a struct's fields. -/
def placesOf (P : Program) (fs : List Field) : Option (List (Nat × Nat)) := fs.mapM fun f => (P.info? f.type).map fun i => (f.offset, i.size)

theorem run_places (P : Program) (w : World) (fs : List Field) : ∀ (pl : List (Nat × Nat)), placesOf P fs = some pl → (fs.mapM (m := Sem) fun f => do pure (f.offset, ← sizeOf f.type)).run P w = .ok pl w := by
  induction fs with
  | nil => intro pl h; simp [placesOf] at h; subst h; simp
  | cons f fs ih =>
    intro pl h
    unfold placesOf at h
    rw [List.mapM_cons] at h
    cases hi : P.info? f.type with
    | none => simp [hi] at h
    | some i =>
      cases hr : placesOf P fs with
      | none => unfold placesOf at hr; simp [hi, hr] at h
      | some ps =>
        have := ih ps hr
        unfold placesOf at hr
        simp [hi, hr] at h
        subst h
        rw [List.mapM_cons]
        simp [sizeOf, typeInfo, hi] at this ⊢
        rw [this]
        simp

section
variable {P : Program} {ops : Array Oper} {rest : List Oper} {o : Oper} {a : Act} {w : World} {Q : Exit → Act → World → Prop}

/-- A struct literal. -/
theorem run_buildB (t : TypeId) (parts : List (Nat × Value)) (fs : Array Field) (hu : P.underlying t = some (.struct fs)) (Z : List Value) (hz : (P.info? t).map (·.zero) = some (some (.agg Z.toArray))) (pl : List (Nat × Nat))
    (hpl : placesOf P fs.toList = some pl) (D : List Value) (hf : Instr.fill (fun i => pl[i]?) Z.toArray parts = some D.toArray) :
    (Instr.build t parts.toArray).run P w = .ok (.agg D.toArray) w := by
  obtain ⟨i, hi, hi2⟩ := Option.map_eq_some_iff.1 hz
  have hp := run_places P w fs.toList pl hpl
  have e : (fs.mapM (m := Sem) fun f => do pure (f.offset, ← sizeOf f.type)) = (do pure (← fs.toList.mapM (m := Sem) fun f => do pure (f.offset, ← sizeOf f.type)).toArray) := by
    rw [Array.mapM_eq_mapM_toList]
    rfl
  have ez : (zeroValue t).run P w = .ok (.agg Z.toArray) w := by simp [zeroValue, typeInfo, hi, hi2]
  unfold Instr.build
  simp only [Sem.run_bind, ez, Result.andThen_ok, run_underlying hu]
  rw [e]
  simp only [Sem.run_bind, hp, Result.andThen_ok, Sem.run_pure]
  simp [Value.cells, hf]

theorem wpList_buildB (hgd : o.guard = none) (t : TypeId) (ps : Array (Nat × Operand)) (ho : o.op = .build t ps) (parts : List (Nat × Value)) (hps : (ps.map fun (x : Nat × Operand) => (x.1, a.eval x.2)) = parts.toArray) (fs : Array Field) (hu : P.underlying t = some (.struct fs)) (Z : List Value) (hz : (P.info? t).map (·.zero) = some (some (.agg Z.toArray))) (pl : List (Nat × Nat))
    (hpl : placesOf P fs.toList = some pl) (D : List Value) (hf : Instr.fill (fun i => pl[i]?) Z.toArray parts = some D.toArray)
    (h : wpList P ops Q rest (a.put o.dst (.agg D.toArray)) w) : wpList P ops Q (o :: rest) a w := by
  refine wpList_val hgd (v := .agg D.toArray) (w' := w) ?_ h
  have hb := run_buildB (w := w) t parts fs hu Z hz pl hpl D hf
  rw [← hps] at hb
  simp only [execOp, ho]
  simp [hb]
end

/-! ### 'make' of rows of structs -/
theorem made_flat (z : List Value) (n : Nat) : (madeCells z.toArray (n * z.length)).toList = (List.replicate n z).flatten := by
  induction n with
  | zero => simp [madeCells]
  | succ n ih =>
    apply List.ext_getElem?
    intro i
    rw [List.replicate_succ, List.flatten_cons]
    by_cases h : i < z.length
    · rw [List.getElem?_append_left h]
      have h2 : i < (n + 1) * z.length := by rw [Nat.succ_mul]; omega
      simp [madeCells, h2, Nat.mod_eq_of_lt h, h]
    · rw [List.getElem?_append_right (by omega), ← ih]
      have e : (n + 1) * z.length = n * z.length + z.length := Nat.succ_mul _ _
      by_cases h2 : i < (n + 1) * z.length
      · have h3 : i - z.length < n * z.length := by omega
        have h4 : (i - z.length) % z.length = i % z.length := by
          have h5 : i = (i - z.length) + z.length := by omega
          have h6 : i % z.length = ((i - z.length) + z.length) % z.length := by rw [← h5]
          rw [h6, Nat.add_mod_right]
        simp [madeCells, h2, h3, h4]
      · have h3 : ¬ i - z.length < n * z.length := by omega
        simp [madeCells, h2, h3]

/-- 'make' of a row of whatever elements: a new block. -/
theorem wpList_makeB {P : Program} {ops : Array Oper} {rest : List Oper} {o : Oper} {a : Act} {w : World} {Q : Exit → Act → World → Prop}
    (hgd : o.guard = none) (l c : Operand) (t : TypeId) (hop : o.op = Op.makeSlice t l c) (e : TypeId) (z : Value) (Z : List Value) (hZ : z.cells = Z.toArray) (size bytes : Nat) (hZ0 : Z.length = size)
    (h1 : P.underlying t = some (.slice e)) (h2 : (P.info? e).map (fun i => (i.zero, i.size, i.bytes)) = some (some z, size, bytes))
    (kl kc : IntKind) (L C : Int) (n : Nat) (hl : a.eval l = .int kl L) (hc : a.eval c = .int kc C) (hL : L = (n : Int)) (hC : C = (n : Int)) (b2 : bytes * n ≤ 281474976710656) (b3 : n ≤ maxLen)
    (hK : ∀ g w', w.heap.size ≤ g → Blk w' g (List.replicate n Z).flatten e → w.grownBy w' none → wpList P ops Q rest (a.put o.dst (.slice (some ⟨g, 0, none⟩) n n)) w') :
    wpList P ops Q (o :: rest) a w := by
  obtain ⟨i, hi, hz0, hz1, hz2⟩ := info_parts h2
  refine wpList_make_full w hgd l c t hop w.heap.size e i z size h1 hi hz0 hz1 kl kc L C n hl hc hL hC (by rw [hz2]; exact b2) b3 (Nat.le_refl _) ?_
  intro w' hown hgrow
  refine hK w.heap.size w' (Nat.le_refl _) ?_ hgrow
  rcases hown.2 with ⟨hh, _⟩ | ⟨g, cap, cur, hv, _, hg, _, _, hcs, htake⟩
  · simp at hh
  · simp only [Value.slice.injEq, Option.some.injEq, Addr.mk.injEq, and_true, true_and] at hv
    obtain ⟨rfl, rfl⟩ := hv
    unfold Blk
    rw [hg]
    have e1 : cur.toList = (List.replicate n Z).flatten := by
      have e2 : cur.toList.take (n * size) = cur.toList := List.take_of_length_le (by rw [Array.length_toList, hcs]; exact Nat.le_refl _)
      rw [← e2, htake, hZ, ← hZ0]
      exact made_flat Z n
    rw [← e1]

/-! ### Equality of arrays of integers -/
theorem all_range_eqI : ∀ (xs ys : List Int), xs.length = ys.length → ((List.range xs.length).all fun i => xs.getD i 0 == ys.getD i 0) = (xs == ys)
  | [], [], _ => rfl
  | x :: xs, y :: ys, h => by
    have ih := all_range_eqI xs ys (by simpa using h)
    rw [List.length_cons, List.range_succ_eq_map, List.all_cons, List.all_map]
    simp only [List.getD_cons_zero, Function.comp_def, List.getD_cons_succ, ih]
    simp [List.cons_beq_cons]
  | [], _ :: _, h => by simp at h
  | _ :: _, [], h => by simp at h

theorem run_equalIn_arr {P : Program} (w : World) (d : Nat) (t e : TypeId) (n : Nat) (k : IntKind) (ht : P.underlying t = some (.array n e)) (he : P.underlying e = some (.int k)) (hsz : (P.info? e).map (·.size) = some 1)
    (xs ys : List Int) (hx : xs.length = n) (hy : ys.length = n) :
    (Op.equalIn (d + 2) t (.agg (xs.map (Value.int k)).toArray) (.agg (ys.map (Value.int k)).toArray)).run P w = .ok (xs == ys) w := by
  obtain ⟨i0, hi1, hi2⟩ := Option.map_eq_some_iff.1 hsz
  have hsz : ∀ w, (sizeOf e).run P w = .ok 1 w := fun w => by simp [sizeOf, typeInfo, hi1, hi2]
  rw [← all_range_eqI xs ys (hx.trans hy.symm), hx, List.range_eq_range', Op.equalIn]
  simp only [Sem.run_bind, run_underlying ht, Result.andThen_ok, hsz, Std.Legacy.Range.forIn_eq_forIn_range', Std.Legacy.Range.size, Nat.sub_zero, Nat.add_sub_cancel, Nat.div_one]
  have hl : ∀ i ∈ List.range' 0 n 1, i < n := fun i hi => by simpa using (List.mem_range'_1.1 hi).2
  generalize List.range' 0 n 1 = l at hl ⊢
  induction l with
  | nil => simp
  | cons i l ih =>
    have hi : i < n := hl i (by simp)
    have px : (Go.part e (xs.map (Value.int k)).toArray (i * 1)).run P w = .ok (.int k (xs.getD i 0)) w := by
      simp [Go.part, isAgg, run_underlying he, List.getD, List.getElem?_eq_getElem (show i < xs.length by omega)]
    have py : (Go.part e (ys.map (Value.int k)).toArray (i * 1)).run P w = .ok (.int k (ys.getD i 0)) w := by
      simp [Go.part, isAgg, run_underlying he, List.getD, List.getElem?_eq_getElem (show i < ys.length by omega)]
    have pe : (Op.equalIn (d + 1) e (.int k (xs.getD i 0)) (.int k (ys.getD i 0))).run P w = .ok (xs.getD i 0 == ys.getD i 0) w := run_equalIn_int w d e k k _ _ he
    simp only [List.forIn_cons, Sem.run_bind, px, py, pe, Result.andThen_ok, List.all_cons]
    cases hb : (xs.getD i 0 == ys.getD i 0)
    · simp
    · simp only [Bool.not_true, Bool.false_eq_true, if_false, Sem.run_pure, Result.andThen_ok, Bool.true_and]
      exact ih fun j hj => hl j (by simp [hj])

theorem run_eql_arr {P : Program} (w : World) (t e : TypeId) (n : Nat) (k : IntKind) (ht : P.underlying t = some (.array n e)) (he : P.underlying e = some (.int k)) (hsz : (P.info? e).map (·.size) = some 1)
    (xs ys : List Int) (hx : xs.length = n) (hy : ys.length = n) :
    (binOp .eql t (.agg (xs.map (Value.int k)).toArray) (.agg (ys.map (Value.int k)).toArray)).run P w = .ok (.bool (xs == ys)) w := by
  rw [run_eql_struct, run_equalIn_arr w 9998 t e n k ht he hsz xs ys hx hy]
  rfl
theorem run_neq_arr {P : Program} (w : World) (t e : TypeId) (n : Nat) (k : IntKind) (ht : P.underlying t = some (.array n e)) (he : P.underlying e = some (.int k)) (hsz : (P.info? e).map (·.size) = some 1)
    (xs ys : List Int) (hx : xs.length = n) (hy : ys.length = n) :
    (binOp .neq t (.agg (xs.map (Value.int k)).toArray) (.agg (ys.map (Value.int k)).toArray)).run P w = .ok (.bool (!(xs == ys))) w := by
  have h := run_equalIn_arr w 9998 t e n k ht he hsz xs ys hx hy
  simp [binOp, Op.equal, Op.maxDepth, h]
end Go.Proofs.Qxb6603070aMods.L
