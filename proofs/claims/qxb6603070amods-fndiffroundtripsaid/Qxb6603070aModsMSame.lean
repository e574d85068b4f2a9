import Derived.Test.Qxb6603070aModsMSort
namespace Go.Proofs.Qxb6603070aMods.M
open Go.RowKit Go.Proofs.Qxb6603070aMods.L

theorem locName_any (p : P2) (w : World) : Calls Trym.prog 35 #[.agg (pc p).toArray] w fun e w' => e = .returned (.string p.1) ∧ Below w.heap.size w w' := by
  go_enter Trym.func35, Trym.ntmps35
  go_wp2_with (first | ((with_reducible show wpList _ _ _ (Oper.mk _ (Op.box 49 _) _ _ _ _ :: _) _ _); refine wpList_boxB rfl 49 _ rfl _ (pc p) rfl rfl ?_; intro g1 w1 hg1 hB1 hgr1; have c1 : w1.cell? ⟨g1, 0, none⟩ = some (.string p.1) := hB1.cell _) | fail)
  go_ret
  exact ⟨rfl, grownBelow hgr1⟩
theorem locParams_any (p : P2) (w : World) : Calls Trym.prog 36 #[.agg (pc p).toArray] w fun e w' => e = .returned (.string p.2) ∧ Below w.heap.size w w' := by
  go_enter Trym.func36, Trym.ntmps36
  go_wp2_with (first | ((with_reducible show wpList _ _ _ (Oper.mk _ (Op.box 49 _) _ _ _ _ :: _) _ _); refine wpList_boxB rfl 49 _ rfl _ (pc p) rfl rfl ?_; intro g1 w1 hg1 hB1 hgr1; have c1 : w1.cell? ⟨g1, 1, none⟩ = some (.string p.2) := hB1.cell _) | fail)
  go_ret
  exact ⟨rfl, grownBelow hgr1⟩

/-- Keys that are strings. -/
theorem beq_str (a b : ByteArray) : (a == b) = decide (a = b) := by
  obtain ⟨x⟩ := a
  obtain ⟨y⟩ := b
  have e : ((⟨x⟩ : ByteArray) == ⟨y⟩) = (x == y) := rfl
  rw [e]
  by_cases h : x = y
  · subst h
    simp
  · have h2 : ¬ ((⟨x⟩ : ByteArray) = ⟨y⟩) := fun k => h (by cases k; rfl)
    rw [decide_eq_false h2]
    exact beq_eq_false_iff_ne.2 h
theorem sameNow_str (a b : ByteArray) : Instr.sameNow .string (.string a) (.string b) = some (decide (a = b)) := by
  simp [Instr.sameNow, beq_str]
theorem keys_str {P : Program} {kt : TypeId} (h : P.underlying kt = some .string) : Keys P kt (fun a : ByteArray => Value.string a) where
  check := fun e a w => by
    show (Instr.checkKey e (9999 + 1) kt (Value.string a)).run P w = _
    rw [Instr.checkKey]
    simp [run_underlying h]
  find := fun a es kv w hm => by
    have := find_ints .string (fun a : ByteArray => Value.string a) sameNow_str a es kv 0 hm
    simp [Instr.findKey, run_underlying h, this]
  same := fun a => by simp [Instr.sameBits, beq_str]
theorem keys9 : Keys Trym.prog 9 (fun a : ByteArray => Value.string a) := keys_str Trym.underlying9
end Go.Proofs.Qxb6603070aMods.M
