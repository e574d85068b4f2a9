import Derived.Test.Qxb6000998aModsEGPlain
namespace Go.Proofs.Qxb6000998aMods.E
open Go.RowKit Go.Proofs.Qxb6000998aMods.L

theorem exec_eql {P : Program} {o : Oper} {a : Act} {w : World} (t : TypeId) (x y : Operand) (u : TypeId) (ho : o.op = .binOp .eql t x y u) (xs ys : Array Value) (hx : a.eval x = .agg xs) (hy : a.eval y = .agg ys) (r : Bool)
    (h : (binOp .eql t (.agg xs) (.agg ys)).run P w = .ok (.bool r) w) (hg : P.eqGuardType P.depth t = false) : (execOp a.eval o).run P w = .ok (.value (.bool r)) w := by
  simp [execOp, ho, hx, hy, eqGuard, hg, h]
theorem eql_key (o : Int) (w : World) : (binOp .eql 22 (.agg (keyC o).toArray) (.agg (keyC o).toArray)).run Trym.prog w = .ok (.bool true) w := by
  have h := run_eql_arr (P := Trym.prog) w 22 5 32 .u8 Trym.underlying22 Trym.underlying5 Trym.size5 (keyI o) (keyI o) (keyI_length o) (keyI_length o)
  unfold keyC
  rw [h]
  simp
theorem ent_key0 (p : Int × Int) : ((ent p).drop 0).take 32 = keyC p.2 := by rw [List.drop_zero, ent_owner]

set_option maxRecDepth 100000 in
set_option maxHeartbeats 1600000 in
theorem entryEq_any (T o : Int) (w : World) :
    Calls Trym.prog 27 #[.agg (ent (T, o)).toArray, .agg (ent (T, o)).toArray] w fun e w' => e = .returned (.bool true) ∧ Below w.heap.size w w' := by
  have l32 : 0 + 32 ≤ (ent (T, o)).length := by rw [ent_length]; omega
  have k0 := ent_key0 (T, o)
  have k1 := ent_kind (T, o)
  have k2 := ent_seq (T, o)
  have k3 := ent_round (T, o)
  have kk := eql_key o
  obtain ⟨C, hC⟩ : ∃ C, C = ent (T, o) := ⟨_, rfl⟩
  obtain ⟨K, hK⟩ : ∃ K, K = keyC o := ⟨_, rfl⟩
  simp only at k0 k1 k2 k3
  rw [← hC] at l32 k0 k1 k2 k3 ⊢
  rw [← hK] at k0 kk
  clear hC hK
  have L32 : Hid (0 + 32 ≤ C.length) := l32
  have K0 : Hid ((C.drop 0).take 32 = K) := k0
  have K1 : Hid (C[32]? = some (.int .u8 2)) := k1
  have K2 : Hid (C[65]? = some (.int .u64 T)) := k2
  have K3 : Hid (C[163]? = some (.int .u64 o)) := k3
  have KK : Hid (∀ w, (binOp .eql 22 (.agg K.toArray) (.agg K.toArray)).run Trym.prog w = .ok (.bool true) w) := kk
  clear l32 k0 k1 k2 k3 kk
  go_enter Trym.func27, Trym.ntmps27
  go_wp2_with (first
    | ((with_reducible show wpList _ _ _ (Oper.mk (some 2) (Op.box 58 _) _ _ _ _ :: _) _ _); refine wpList_boxB rfl 58 _ rfl _ C rfl rfl ?_; intro g1 w1 hg1 hB1 hgr1)
    | ((with_reducible show wpList _ _ _ (Oper.mk (some 3) (Op.box 58 _) _ _ _ _ :: _) _ _); refine wpList_boxB rfl 58 _ rfl _ C rfl rfl ?_; intro g2 w2 hg2 hB2 hgr2; have hB1' := hB1.kept hgr2; have c1 : w2.cell? ⟨g1, 32, none⟩ = some (.int .u8 2) := (hB1'.cell _).trans K1.out; have c2 : w2.cell? ⟨g1, 32 + 33, none⟩ = some (.int .u64 T) := (hB1'.cell _).trans K2.out; have c3 : w2.cell? ⟨g1, 32 + 131, none⟩ = some (.int .u64 o) := (hB1'.cell _).trans K3.out; have d1 : w2.cell? ⟨g2, 32, none⟩ = some (.int .u8 2) := (hB2.cell _).trans K1.out; have d2 : w2.cell? ⟨g2, 32 + 33, none⟩ = some (.int .u64 T) := (hB2.cell _).trans K2.out; have d3 : w2.cell? ⟨g2, 32 + 131, none⟩ = some (.int .u64 o) := (hB2.cell _).trans K3.out)
    | ((with_reducible show wpList _ _ _ (Oper.mk (some 6) (Op.load 22 _) _ _ _ _ :: _) _ _); refine wpList_loadB rfl 22 _ rfl g1 0 rfl _ 58 32 hB1' _ Trym.underlying22 rfl Trym.size22 L32.out ?_; rw [K0.out])
    | ((with_reducible show wpList _ _ _ (Oper.mk (some 8) (Op.load 22 _) _ _ _ _ :: _) _ _); refine wpList_loadB rfl 22 _ rfl g2 0 rfl _ 58 32 hB2 _ Trym.underlying22 rfl Trym.size22 L32.out ?_; rw [K0.out])
    | ((with_reducible show wpList _ _ _ (Oper.mk (some 9) (Op.binOp BinOp.eql 22 _ _ _) _ _ _ _ :: _) _ _); refine wpList_val rfl (exec_eql 22 _ _ 22 rfl _ _ rfl rfl true (KK.out _) guard22) ?_))
  go_ret
  exact ⟨rfl, (grownBelow hgr1).trans ((grownBelow hgr2).mono hgr1.size)⟩
end Go.Proofs.Qxb6000998aMods.E
