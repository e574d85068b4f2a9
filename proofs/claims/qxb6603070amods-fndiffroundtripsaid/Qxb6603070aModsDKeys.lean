import Derived.Test.Qxb6603070aModsDSrc
namespace Go.Proofs.Qxb6603070aMods.M
open Go.RowKit Go.Proofs.Qxb6603070aMods.L

def KP (p : P2) : Value := .agg (pc p).toArray
theorem run_checkKey_pc (e : Bool) (d : Nat) (p : P2) (w : World) : (Instr.checkKey e (d + 2) 49 (KP p)).run Trym.prog w = .ok () w := by
  obtain ⟨f, g, e2, ⟨f1, f2, f3⟩, ⟨g1, g2, g3⟩⟩ := two49
  have f4 : f.name ≠ "_" := by simpa using f3
  have g4 : g.name ≠ "_" := by simpa using g3
  have pp : ∀ (r : P2) (w : World), (Go.part 9 (pc r).toArray 0).run Trym.prog w = .ok (.string r.1) w := fun r w => by
    simp [Go.part, isAgg, run_underlying Trym.underlying9, pc]
  have pp1 : ∀ (r : P2) (w : World), (Go.part 9 (pc r).toArray 1).run Trym.prog w = .ok (.string r.2) w := fun r w => by
    simp [Go.part, isAgg, run_underlying Trym.underlying9, pc]
  have cs : ∀ (s : ByteArray) (w : World), (Instr.checkKey e (d + 1) 9 (.string s)).run Trym.prog w = .ok () w := fun s w => by
    rw [Instr.checkKey]
    simp [run_underlying Trym.underlying9]
  unfold KP
  rw [Instr.checkKey]
  simp only [Sem.run_bind, run_underlying fields49, Result.andThen_ok]
  rw [← Array.forIn_toList, e2]
  simp [f4, g4, f1, f2, g1, g2, pp, pp1, cs]
theorem keysP : Keys Trym.prog 49 KP where
  check := fun e a w => run_checkKey_pc e 9998 a w
  find := fun a es kv w hm => by
    have hask := find_ask (P := Trym.prog) w 49 KP (fun a b => by
      have := run_equalIn_pc 49 fields49 free49 two49 9998 a b w
      exact this) a es kv 0 hm
    unfold Instr.findKey
    simp only [Sem.run_bind, run_underlying fields49, Result.andThen_ok]
    cases es with
    | nil =>
      cases kv with
      | nil => rfl
      | cons q r => simp at hm
    | cons x r =>
      have : Instr.findNow (.struct (Trym.prog.fieldsOf 49)) (KP a) (x :: r) 0 = none := by simp [Instr.findNow, Instr.sameNow]
      rw [this]
      exact hask
  same := fun a => by
    show Instr.sameBits (9999 + 1) _ _ = true
    unfold KP
    rw [Instr.sameBits]
    simp [pc, Instr.sameBits, beq_str]
theorem und27 : Trym.prog.underlying 27 = some (.map 49 54) := by kernel_rfl
theorem zero54 : (Trym.prog.info? 54).map (·.zero) = some (some (.agg #[])) := by kernel_rfl
theorem size54 : (Trym.prog.info? 54).map (·.size) = some 0 := by kernel_rfl

/-- A new map, with a hint. -/
theorem wpList_makeMapH {α : Type} (K : α → Value) {P : Program} {ops : Array Oper} {rest : List Oper} {o : Oper} {a : Act} {w : World} {Q : Exit → Act → World → Prop} (hgd : o.guard = none) (t : TypeId) (x : Operand) (ho : o.op = .makeMap t (some x)) (kt et : TypeId) (ht : P.underlying t = some (.map kt et)) (k : IntKind) (n : Int) (hx : a.eval x = .int k n)
    (h : ∀ g w', w.heap.size ≤ g → MapB w' g K [] → w.grownBy w' none → wpList P ops Q rest (a.put o.dst (.map (some g))) w') : wpList P ops Q (o :: rest) a w := by
  refine wpList_val hgd (v := .map (some w.heap.size)) (w' := w.alloc (.map #[] 0)) ?_ (h w.heap.size _ (Nat.le_refl _) ⟨#[], 0, heap_alloc_new w _, by simp⟩ (World.grownBy_alloc w _ none))
  simp only [execOp, ho]
  simp [Instr.makeMap, newObj, hx, run_underlying ht, asInt, asIntOf]
  rfl

/-- The map m holds just the pairs of L. -/
def SetM (w : World) (m : Nat) (L : List P2) : Prop := ∃ kv : List (P2 × Value), MapB w m KP kv ∧ (∀ q ∈ kv, q.2 = .agg #[]) ∧ ∀ x, (∃ q ∈ kv, q.1 = x) ↔ x ∈ L
theorem SetM.all {w w' : World} {m : Nat} {L : List P2} (h : SetM w m L) (b : Below w.heap.size w w') : SetM w' m L := by
  obtain ⟨kv, hM, h⟩ := h
  exact ⟨kv, hM.all b, h⟩
theorem SetM.fresh {w : World} {m : Nat} (h : MapB w m KP []) : SetM w m [] := ⟨[], h, (fun q hq => by cases hq), (fun x => by simp)⟩
theorem SetM.look {w : World} {m : Nat} {L : List P2} (h : SetM w m L) (x : P2) : (Instr.lookup 27 (.map (some m)) (KP x) true).run Trym.prog w = .ok (.tuple #[.agg #[], .bool (inS L x)]) w := by
  obtain ⟨kv, hM, hv, hx⟩ := h
  have hr := run_lookupB (w := w) und27 keysP hM x (.agg #[]) zero54 true
  rw [hr]
  cases hat : atKey x kv 0 with
  | none =>
    have hn := (atKey_none x kv 0).1 hat
    have : inS L x = false := inS_no (fun h => by
      obtain ⟨q, hq, e⟩ := (hx x).2 h
      exact hn q hq e)
    rw [this]
    rfl
  | some y =>
    have hm := List.mem_of_getElem? (atKey_get x kv y.1 y.2 hat)
    have : inS L x = true := inS_iff.2 ((hx x).1 ⟨_, hm, rfl⟩)
    rw [this]
    have h2 : y.2 = .agg #[] := hv _ hm
    simp [h2]
theorem SetM.put {w : World} {m : Nat} {L : List P2} (h : SetM w m L) (p : P2) : ∃ kv, MapB w m KP kv ∧ ∀ w', MapB w' m KP (match atKey p kv 0 with | some y => kv.set y.1 (p, .agg #[]) | none => kv ++ [(p, .agg #[])]) → SetM w' m (L ++ [p]) := by
  obtain ⟨kv, hM, hv, hx⟩ := h
  refine ⟨kv, hM, fun w' hM' => ⟨_, hM', ?_, ?_⟩⟩
  · intro q hq
    cases hat : atKey p kv 0 with
    | none =>
      rw [hat] at hq
      rcases List.mem_append.1 hq with h | h
      · exact hv q h
      · simp only [List.mem_singleton] at h
        rw [h]
    | some y =>
      rw [hat] at hq
      rcases List.mem_or_eq_of_mem_set hq with h | h
      · exact hv q h
      · rw [h]
  · intro x
    rw [List.mem_append, List.mem_singleton, ← hx x]
    cases hat : atKey p kv 0 with
    | none =>
      constructor
      · rintro ⟨q, hq, e⟩
        rcases List.mem_append.1 hq with h | h
        · exact .inl ⟨q, h, e⟩
        · simp only [List.mem_singleton] at h
          rw [h] at e
          exact .inr e.symm
      · rintro (⟨q, hq, e⟩ | e)
        · exact ⟨q, List.mem_append_left _ hq, e⟩
        · exact ⟨(p, .agg #[]), by simp, e.symm⟩
    | some y =>
      have hg := atKey_get p kv y.1 y.2 hat
      obtain ⟨l1, e1⟩ := List.getElem?_eq_some_iff.1 hg
      constructor
      · rintro ⟨q, hq, e⟩
        rcases List.mem_or_eq_of_mem_set hq with h | h
        · exact .inl ⟨q, h, e⟩
        · rw [h] at e
          exact .inr e.symm
      · rintro (⟨q, hq, e⟩ | e)
        · obtain ⟨i, hi⟩ := List.mem_iff_getElem?.1 hq
          by_cases hiy : i = y.1
          · subst hiy
            rw [hg] at hi
            cases hi
            exact ⟨(p, .agg #[]), List.mem_iff_getElem?.2 ⟨y.1, by simp [l1]⟩, e⟩
          · exact ⟨q, List.mem_iff_getElem?.2 ⟨i, by rw [List.getElem?_set, if_neg (fun k => hiy k.symm)]; exact hi⟩, e⟩
        · exact ⟨(p, .agg #[]), List.mem_iff_getElem?.2 ⟨y.1, by simp [l1]⟩, e.symm⟩
end Go.Proofs.Qxb6603070aMods.M
