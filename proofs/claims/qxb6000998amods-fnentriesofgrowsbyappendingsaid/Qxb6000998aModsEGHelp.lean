import Derived.Test.Qxb6000998aModsEGEq
import Derived.Test.Qxb6000998aModsEGGuard
import Derived.Test.Qxb6000998aModsEKLaw
namespace Go.Proofs.Qxb6000998aMods.E
open Go.RowKit Go.Proofs.Qxb6000998aMods.L

theorem Trym.zero3 : (Trym.prog.info? 3).map (·.zero) = some (some (.int .i64 0)) := by kernel_rfl

/-- The rows of the call's own, cell by cell. -/
theorem Owners.cells {w : World} {a : Option Addr} {O : List (List Int)} (h : Owners w (.slice a O.length O.length) O) :
    ∃ us : List Value, us.length = O.length ∧ (∀ (k : Nat) u, us[k]? = some u → ∃ g, a = some ⟨g, 0, none⟩ ∧ w.cell? ⟨g, k, none⟩ = some u) ∧ ∀ (i : Nat) u zs, us[i]? = some u → O[i]? = some zs → Row w u zs := by
  rcases h with ⟨_, rfl⟩ | ⟨g, vs, hv, hB, hl, hr⟩
  · exact ⟨[], rfl, fun k u h => by simp at h, fun i u zs h => by simp at h⟩
  · simp only [Value.slice.injEq, and_true] at hv
    exact ⟨vs, hl, fun k u h => ⟨g, hv, by rw [hB.cell]; exact h⟩, hr⟩
theorem Row.at {w : World} {a : Option Addr} {zs : List Int} (h : Row w (.slice a zs.length zs.length) zs) {j : Nat} {o : Int} (ho : zs[j]? = some o) : ∃ b, a = some ⟨b, 0, none⟩ ∧ w.cell? ⟨b, j, none⟩ = some (.int .u16 o) := by
  rcases h with ⟨_, rfl⟩ | ⟨g, hv, hB⟩
  · simp at ho
  · simp only [Value.slice.injEq, and_true] at hv
    exact ⟨g, hv, by rw [hB.cell, List.getElem?_map, ho]; rfl⟩

/-- An entry of a row of entries. -/
theorem own_ent {w : World} {B go n c : Nat} {L : List (Int × Int)} (h : w.ownsRow B 58 228 (.slice (some ⟨go, 0, none⟩) n c) n (flat L)) (hn : n = L.length) {k : Nat} {p : Int × Int} (hp : L[k]? = some p) : w.rangeAt go (k * 228) (ent p) := by
  subst hn
  intro c v hv
  have hk := (List.getElem?_eq_some_iff.1 hp).1
  have hc : c < 228 := by have := (List.getElem?_eq_some_iff.1 hv).1; rwa [ent_length] at this
  rw [h.cellAt (k * 228 + c) (by omega), flat_get L k p c hp hc, hv]

theorem exec_not {P : Program} {o : Oper} {a : Act} {w : World} (t : TypeId) (x : Operand) (ho : o.op = .unOp .not t x) (b : Bool) (hx : a.eval x = .bool b) : (execOp a.eval o).run P w = .ok (.value (.bool !b)) w := by
  simp only [execOp, ho, hx]
  simp [Op.unary]
theorem exec_pick {P : Program} {o : Oper} {a : Act} {w : World} (x y z : Operand) (ho : o.op = .pick x y z) (b : Bool) (v : Value) (hx : a.eval x = .bool b) (hv : (if b then a.eval y else a.eval z) = v) : (execOp a.eval o).run P w = .ok (.value v) w := by
  cases b <;> simp_all [execOp, go_sem]
theorem exec_neq_int {P : Program} {o : Oper} {a : Act} {w : World} (k : IntKind) (t : TypeId) (x y : Operand) (u : TypeId) (ho : o.op = .binOp .neq t x y u) (m n : Int) (hx : a.eval x = .int k m) (hy : a.eval y = .int k n)
    : (execOp a.eval o).run P w = .ok (.value (.bool (m != n))) w := by
  simp [execOp, ho, hx, hy, eqGuard, binOp_neq]

/-- A look-up under a guard that lets it run. -/
theorem wpList_want {P : Program} {ops : Array Oper} {rest : List Oper} {o : Oper} {a : Act} {w : World} {Q : Exit → Act → World → Prop} (hw : Region.wanted o (yielded ops a.tmps) = true) {v : Value} (h : (execOp a.eval o).run P w = .ok (.value v) w)
    (k : wpList P ops Q rest (a.put o.dst v) w) : wpList P ops Q (o :: rest) a w :=
  wpList_step fun K hK => by
    rw [if_pos hw]
    unfold Oper.wp
    rw [h]
    exact hK _ _ k
theorem exec_lookupV {P : Program} {o : Oper} {a : Act} {w : World} {α : Type} [DecidableEq α] {K : α → Value} (t : TypeId) (mo xo : Operand) (ok : Bool) (ho : o.op = .lookup t mo xo ok) (kt et : TypeId) (ht : P.underlying t = some (.map kt et)) (hk : Keys P kt K)
    (m : Nat) (hmo : a.eval mo = .map (some m)) (kv : List (α × Value)) (hm : MapB w m K kv) (x : α) (hx : a.eval xo = K x) (z : Value) (hz : (P.info? et).map (·.zero) = some (some z)) (v : Value)
    (hv : (if ok then .tuple #[((atKey x kv 0).map (·.2)).getD z, .bool (atKey x kv 0).isSome] else ((atKey x kv 0).map (·.2)).getD z) = v) : (execOp a.eval o).run P w = .ok (.value v) w := by
  have hr := run_lookupB (w := w) ht hk hm x z hz ok
  rw [hv] at hr
  simp only [execOp, ho, hmo, hx]
  simp [hr]

theorem exec_field1 {o : Oper} {a : Act} {w : World} (x : Operand) (ho : o.op = .fieldAddr 58 x 1) (b : Nat) (hx : a.eval x = .pointer (some ⟨b, 0, none⟩)) : (execOp a.eval o).run Trym.prog w = .ok (.value (.pointer (some ⟨b, 32, none⟩))) w := by
  have h : (Instr.fieldAt 58 (.pointer (some ⟨b, 0, none⟩)) 1).run Trym.prog w = .ok (.pointer (some ⟨b, 32, none⟩)) w := by kernel_rfl
  simp only [execOp, ho, hx]
  simp [h]
theorem exec_field7 {o : Oper} {a : Act} {w : World} (x : Operand) (ho : o.op = .fieldAddr 37 x 7) (b : Nat) (hx : a.eval x = .pointer (some ⟨b, 32, none⟩)) : (execOp a.eval o).run Trym.prog w = .ok (.value (.pointer (some ⟨b, 163, none⟩))) w := by
  have h : (Instr.fieldAt 37 (.pointer (some ⟨b, 32, none⟩)) 7).run Trym.prog w = .ok (.pointer (some ⟨b, 163, none⟩)) w := by kernel_rfl
  simp only [execOp, ho, hx]
  simp [h]
theorem exec_field0 {o : Oper} {a : Act} {w : World} (x : Operand) (ho : o.op = .fieldAddr 37 x 0) (b : Nat) (hx : a.eval x = .pointer (some ⟨b, 32, none⟩)) : (execOp a.eval o).run Trym.prog w = .ok (.value (.pointer (some ⟨b, 32, none⟩))) w := by
  have h : (Instr.fieldAt 37 (.pointer (some ⟨b, 32, none⟩)) 0).run Trym.prog w = .ok (.pointer (some ⟨b, 32, none⟩)) w := by kernel_rfl
  simp only [execOp, ho, hx]
  simp [h]
theorem exec_same {P : Program} {o : Oper} {a : Act} {w : World} (k : IntKind) (t : TypeId) (x y : Operand) (u : TypeId) (ho : o.op = .binOp .neq t x y u) (m : Int) (hx : a.eval x = .int k m) (hy : a.eval y = .int k m) :
    (execOp a.eval o).run P w = .ok (.value (.bool false)) w := by
  have := exec_neq_int (P := P) (w := w) k t x y u ho m m hx hy
  rw [this]
  simp

theorem tag0 (j : Nat) : tag 0 j = (j : Int) := by simp [tag]
theorem newOf_hit (S : List Int) (acc : List (Int × Int)) (p : Int × Int) (h : p.2 ∈ S) : newOf S (acc ++ [p]) = newOf S acc := by simp [newOf, h]
theorem newOf_miss (S : List Int) (acc : List (Int × Int)) (p : Int × Int) (h : p.2 ∉ S) : newOf S (acc ++ [p]) = newOf S acc ++ [p] := by simp [newOf, h]
theorem newOf_le (S : List Int) (L : List (Int × Int)) : (newOf S L).length ≤ L.length := List.length_filter_le _ _
theorem newOf_facts {S : List Int} {E : List Int} {k : Nat} {q : Int × Int} (h : (newOf S (fx E))[k]? = some q) : q ∈ fx E ∧ q.2 ∉ S := by
  have := List.mem_filter.1 (List.mem_of_getElem? h)
  exact ⟨this.1, by simpa using this.2⟩
theorem newOf_rises {S : List Int} {E : List Int} {k : Nat} {p q : Int × Int} (h1 : (newOf S (fx E))[k]? = some p) (h2 : (newOf S (fx E))[k + 1]? = some q) : p.1 < q.1 := by
  have hs : (newOf S (fx E)).Pairwise (fun p q => p.1 < q.1) := (rowE_sorted 0 E).sublist ((List.filter_sublist).trans (fx_sub E))
  rw [List.pairwise_iff_getElem] at hs
  obtain ⟨l1, e1⟩ := List.getElem?_eq_some_iff.1 h1
  obtain ⟨l2, e2⟩ := List.getElem?_eq_some_iff.1 h2
  have := hs k (k + 1) l1 l2 (by omega)
  rwa [e1, e2] at this
end Go.Proofs.Qxb6000998aMods.E
