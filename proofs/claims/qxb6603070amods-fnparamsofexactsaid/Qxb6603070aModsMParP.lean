import Derived.Test.Qxb6603070aModsMParW
namespace Go.Proofs.Qxb6603070aMods.M
open Go.RowKit Go.Proofs.Qxb6603070aMods.L

/-- The map that paramsOf has built of W; no row of its own lies in block E. -/
def PMap (B E : Nat) (w : World) (m : Nat) (W : List P2) : Prop :=
  ∃ kv, B ≤ m ∧ MapB w m KS kv ∧ kv.map (fun q : ByteArray × Value => q.1) = keysOf (W.map (·.1)) ∧ ∀ q ∈ kv, w.ownsRow B 49 2 q.2 (named q.1 W).length (flatP (named q.1 W)) ∧ q.2.ownBlock ≠ some E
theorem own_lt {w : World} {base : Nat} {e : TypeId} {size : Nat} {v : Value} {n : Nat} {xs : List Value} (h : w.ownsRow base e size v n xs) {E : Nat} (hE : w.heap.size ≤ E) : v.ownBlock ≠ some E := by
  intro e
  rcases h.2 with ⟨rfl, _⟩ | ⟨g, cap, cur, rfl, hb, hgg, rest⟩
  · simp [Value.ownBlock] at e
  · simp [Value.ownBlock] at e
    subst e
    have := (Array.getElem?_eq_some_iff.1 hgg).1
    omega
theorem PMap.fresh {B E : Nat} {w : World} {m : Nat} (hm : B ≤ m) (h : MapB w m KS []) : PMap B E w m [] := ⟨[], hm, h, rfl, fun q hq => by cases hq⟩
theorem zero29 : (Trym.prog.info? 29).map (·.zero) = some (some (.slice none 0 0)) := by kernel_rfl

theorem PMap.look {B E : Nat} {w : World} {m : Nat} {W : List P2} (h : PMap B E w m W) (x : ByteArray) :
    ∃ u kv, u.ownBlock ≠ some E ∧ ∀ w1, Below w.heap.size w w1 → w1.ownsRow B 49 2 u (named x W).length (flatP (named x W)) ∧ (Instr.lookup 45 (.map (some m)) (.string x) false).run Trym.prog w1 = .ok u w1 ∧
      ∀ w2 u' (p : P2), p.1 = x → w1.grownBy w2 u.ownBlock → w2.ownsRow B 49 2 u' ((named x W).length + 1) (flatP (named x W) ++ pc p) → MapB w2 m KS kv ∧
        ∀ w3, MapB w3 m KS (match atKey x kv 0 with | some y => kv.set y.1 (x, u') | none => kv ++ [(x, u')]) → w2.grownBy w3 (some m) → Params B w3 (.map (some m)) (W ++ [p]) := by
  obtain ⟨kv, hm, hM0, hk, ho0⟩ := h
  refine ⟨((atKey x kv 0).map (·.2)).getD (.slice none 0 0), kv, ?_, ?_⟩
  · cases hat : atKey x kv 0 with
    | none => simp [Value.ownBlock]
    | some y => exact (ho0 (x, y.2) (List.mem_of_getElem? (atKey_get x kv y.1 y.2 hat))).2
  intro w1 hb
  have hM := hM0.all hb
  have ho := fun q hq => own_all (ho0 q hq).1 hb
  clear hM0 ho0 hb
  obtain ⟨w, rfl⟩ : ∃ w : World, w = w1 := ⟨_, rfl⟩
  have hr := run_lookupB (w := w) (K := KS) Trym.underlying45 keys9 hM x (.slice none 0 0) zero29 false
  have hin : ∀ q ∈ kv, q.1 ∈ W.map (·.1) := fun q hq => mem_keysOf.1 (hk ▸ List.mem_map.2 ⟨q, hq, rfl⟩)
  have hnd : (kv.map (fun q : ByteArray × Value => q.1)).Nodup := hk ▸ nodup_keysOf _
  obtain ⟨u, hu⟩ : ∃ u, u = ((atKey x kv 0).map (·.2)).getD (.slice none 0 0) := ⟨_, rfl⟩
  rw [← hu]
  have hown : w.ownsRow B 49 2 u (named x W).length (flatP (named x W)) := by
    cases hat : atKey x kv 0 with
    | none =>
      have hn := (atKey_none x kv 0).1 hat
      rw [named_none (fun hx => by
        have : x ∈ kv.map (fun q : ByteArray × Value => q.1) := hk ▸ mem_keysOf.2 hx
        obtain ⟨q, hq, e⟩ := List.mem_map.1 this
        exact hn q hq e)]
      rw [hu, hat]
      exact World.ownsRow_nil _ _ _ _
    | some y =>
      rw [hu, hat]
      exact ho (x, y.2) (List.mem_of_getElem? (atKey_get x kv y.1 y.2 hat))
  have hothers : ∀ q ∈ kv, q.1 ≠ x → q.2.ownBlock = none ∨ q.2.ownBlock ≠ u.ownBlock := by
    intro q hq hne
    cases hg : q.2.ownBlock with
    | none => exact .inl rfl
    | some g =>
      right
      intro e
      obtain ⟨p1, L1, e1, f1⟩ := named_head (hin q hq)
      have o1 := ho q hq
      rw [e1] at o1
      have c1 := own_first o1 (by simp) hg
      cases hat : atKey x kv 0 with
      | none => rw [hu, hat] at e; simp [Value.ownBlock] at e
      | some y =>
        have hmem := List.mem_of_getElem? (atKey_get x kv y.1 y.2 hat)
        obtain ⟨p2, L2, e2, f2⟩ := named_head (hin _ hmem)
        have o2 := hown
        rw [e2] at o2
        have c2 := own_first o2 (by simp) e.symm
        rw [c1] at c2
        simp only [Option.some.injEq, Value.string.injEq] at c2
        exact hne (f1.symm.trans (c2.trans f2))
  refine ⟨hown, ?_, ?_⟩
  · rw [hu]; simpa [KS] using hr
  · intro w2 u' p hp hg h2
    have hM2 : MapB w2 m KS kv := hM.grown hg (fun e => own_not_map hown hM e.symm)
    refine ⟨hM2, ?_⟩
    intro w3 hM3 hg3
    have hnew : w3.ownsRow B 49 2 u' (named x (W ++ [p])).length (flatP (named x (W ++ [p]))) := by
      rw [← hp, named_snoc_same, flatP_append, hp]
      have h3 := own_grown h2 hg3 (.inr (own_not_map h2 hM2))
      simpa [flatP] using h3
    have hold : ∀ q ∈ kv, q.1 ≠ x → w3.ownsRow B 49 2 q.2 (named q.1 (W ++ [p])).length (flatP (named q.1 (W ++ [p]))) := by
      intro q hq hne
      rw [named_snoc_other W p q.1 (by rw [hp]; exact hne)]
      have h3 := own_grown (ho q hq) hg (hothers q hq hne)
      exact own_grown h3 hg3 (.inr (own_not_map h3 hM2))
    refine .inr ⟨m, _, rfl, hm, by simp, hM3, ?_, ?_⟩
    · refine (put_keys hk).trans ?_
      rw [List.map_append]
      simp [hp]
    · intro q hq
      cases hat : atKey x kv 0 with
      | none =>
        rw [hat] at hq
        rcases List.mem_append.1 hq with hq | hq
        · exact hold q hq ((atKey_none x kv 0).1 hat q hq)
        · simp only [List.mem_singleton] at hq
          subst hq
          exact hnew
      | some y =>
        rw [hat] at hq
        have hgt := atKey_get x kv y.1 y.2 hat
        obtain ⟨i, hi⟩ := List.mem_iff_getElem?.1 hq
        rw [List.getElem?_set] at hi
        by_cases hyi : y.1 = i
        · rw [if_pos hyi] at hi
          split at hi
          · simp only [Option.some.injEq] at hi
            subst hi
            exact hnew
          · cases hi
        · rw [if_neg hyi] at hi
          refine hold q (List.mem_of_getElem? hi) ?_
          intro e
          have h1 : (kv.map (fun q : ByteArray × Value => q.1))[y.1]? = some x := by rw [List.getElem?_map, hgt]; rfl
          have h2 : (kv.map (fun q : ByteArray × Value => q.1))[i]? = some x := by rw [List.getElem?_map, hi]; simp [e]
          obtain ⟨l1, _⟩ := List.getElem?_eq_some_iff.1 h1
          exact hyi ((List.getElem?_inj l1 hnd).1 (h1.trans h2.symm))
end Go.Proofs.Qxb6603070aMods.M
