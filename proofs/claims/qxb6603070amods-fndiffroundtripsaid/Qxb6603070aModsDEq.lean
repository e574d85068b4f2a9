import Derived.Test.Qxb6603070aModsMRows
import Derived.Test.Qxb6603070aModsDPlain
namespace Go.Proofs.Qxb6603070aMods.M
open Go.RowKit Go.Proofs.Qxb6603070aMods.L

theorem fields43 : Trym.prog.underlying 43 = some (.struct (Trym.prog.fieldsOf 43)) := by kernel_rfl
theorem fields49 : Trym.prog.underlying 49 = some (.struct (Trym.prog.fieldsOf 49)) := by kernel_rfl
theorem free43 : Trym.prog.stoodInHeld 43 = false := by kernel_rfl
theorem free49 : Trym.prog.stoodInHeld 49 = false := by kernel_rfl
theorem two43 : ∃ f g : Field, (Trym.prog.fieldsOf 43).toList = [f, g] ∧ (f.type = 9 ∧ f.offset = 0 ∧ (f.name != "_") = true) ∧ (g.type = 9 ∧ g.offset = 1 ∧ (g.name != "_") = true) :=
  ⟨(Trym.prog.fieldsOf 43)[0]!, (Trym.prog.fieldsOf 43)[1]!, by kernel_rfl, ⟨by kernel_rfl, by kernel_rfl, by kernel_rfl⟩, ⟨by kernel_rfl, by kernel_rfl, by kernel_rfl⟩⟩
theorem two49 : ∃ f g : Field, (Trym.prog.fieldsOf 49).toList = [f, g] ∧ (f.type = 9 ∧ f.offset = 0 ∧ (f.name != "_") = true) ∧ (g.type = 9 ∧ g.offset = 1 ∧ (g.name != "_") = true) :=
  ⟨(Trym.prog.fieldsOf 49)[0]!, (Trym.prog.fieldsOf 49)[1]!, by kernel_rfl, ⟨by kernel_rfl, by kernel_rfl, by kernel_rfl⟩, ⟨by kernel_rfl, by kernel_rfl, by kernel_rfl⟩⟩
theorem beq_pair (p q : P2) : ((p.1.toList == q.1.toList) && (p.2.toList == q.2.toList)) = decide (p = q) := by
  by_cases h : p = q
  · subst h
    simp
  · rw [decide_eq_false h]
    by_cases h1 : p.1 = q.1
    · have h2 : p.2 ≠ q.2 := fun e => h (Prod.ext h1 e)
      rw [ne_toList h2]; simp
    · rw [ne_toList h1]; simp
theorem run_equalIn_pc (t : TypeId) (ht : Trym.prog.underlying t = some (.struct (Trym.prog.fieldsOf t))) (hf : Trym.prog.stoodInHeld t = false)
    (h2 : ∃ f g : Field, (Trym.prog.fieldsOf t).toList = [f, g] ∧ (f.type = 9 ∧ f.offset = 0 ∧ (f.name != "_") = true) ∧ (g.type = 9 ∧ g.offset = 1 ∧ (g.name != "_") = true)) (d : Nat) (p q : P2) (w : World) :
    (Op.equalIn (d + 2) t (.agg (pc p).toArray) (.agg (pc q).toArray)).run Trym.prog w = .ok (decide (p = q)) w := by
  rw [run_equalIn_struct w (d + 1) t _ _ ht hf]
  obtain ⟨f, g, e, ⟨f1, f2, f3⟩, ⟨g1, g2, g3⟩⟩ := h2
  have f4 : f.name ≠ "_" := by simpa using f3
  have g4 : g.name ≠ "_" := by simpa using g3
  have pp : ∀ (r : P2) (w : World), (Go.part 9 (pc r).toArray 0).run Trym.prog w = .ok (.string r.1) w := fun r w => by
    simp [Go.part, isAgg, run_underlying Trym.underlying9, pc]
  have pp1 : ∀ (r : P2) (w : World), (Go.part 9 (pc r).toArray 1).run Trym.prog w = .ok (.string r.2) w := fun r w => by
    simp [Go.part, isAgg, run_underlying Trym.underlying9, pc]
  rw [e, ← beq_pair]
  simp only [Op.eqFields, f4, g4, f1, f2, g1, g2, ne_eq, not_false_eq_true, if_true, Sem.run_bind, pp, Result.andThen_ok, run_equalIn_string w d 9 _ _ Trym.underlying9]
  cases h1 : (p.1.toList == q.1.toList)
  · simp
  · simp only [Bool.not_true, Bool.false_eq_true, if_false, Sem.run_bind, pp1, Result.andThen_ok, run_equalIn_string w d 9 _ _ Trym.underlying9]
    cases h2 : (p.2.toList == q.2.toList) <;> simp
theorem run_eql43 (p q : P2) (w : World) : (binOp .eql 43 (.agg (pc p).toArray) (.agg (pc q).toArray)).run Trym.prog w = .ok (.bool (decide (p = q))) w := by
  rw [run_eql_struct, run_equalIn_pc 43 fields43 free43 two43 9998 p q w]
  rfl
theorem run_neq43 (p q : P2) (w : World) : (binOp .neq 43 (.agg (pc p).toArray) (.agg (pc q).toArray)).run Trym.prog w = .ok (.bool (!decide (p = q))) w := by
  rw [run_neq_struct, run_equalIn_pc 43 fields43 free43 two43 9998 p q w]
  rfl
theorem exec_eql43 {o : Oper} {a : Act} {w : World} (x y : Operand) (u : TypeId) (ho : o.op = .binOp .eql 43 x y u) (p q : P2) (hx : a.eval x = .agg (pc p).toArray) (hy : a.eval y = .agg (pc q).toArray) :
    (execOp a.eval o).run Trym.prog w = .ok (.value (.bool (decide (p = q)))) w := by
  simp only [execOp, ho, hx, hy]
  simp [eqGuard, run_eql43]
theorem exec_neq43 {o : Oper} {a : Act} {w : World} (x y : Operand) (u : TypeId) (ho : o.op = .binOp .neq 43 x y u) (p q : P2) (hx : a.eval x = .agg (pc p).toArray) (hy : a.eval y = .agg (pc q).toArray) :
    (execOp a.eval o).run Trym.prog w = .ok (.value (.bool (!decide (p = q)))) w := by
  simp only [execOp, ho, hx, hy]
  simp [eqGuard, run_neq43]
end Go.Proofs.Qxb6603070aMods.M
