import Derived.Test.Qxb6000998aModsEGuard
namespace Go.Proofs.Qxb6000998aMods.E
open Go.RowKit Go.Proofs.Qxb6000998aMods.L

theorem Trym.zero22 : (Trym.prog.info? 22).map (·.zero) = some (some (.agg (List.replicate 32 (Value.int .u8 0)).toArray)) := by kernel_rfl
theorem Trym.size22 : (Trym.prog.info? 22).map (·.size) = some 32 := by kernel_rfl
theorem Trym.size5 : (Trym.prog.info? 5).map (·.size) = some 1 := by kernel_rfl

theorem rep_key (a b : Int) : ((List.replicate 32 (Value.int .u8 0)).set 0 (.int .u8 a)).set 1 (.int .u8 b) = .int .u8 a :: .int .u8 b :: List.replicate 30 (Value.int .u8 0) := rfl
theorem keyC_eq (o : Int) : keyC o = .int .u8 (o / 256) :: .int .u8 (o % 256) :: List.replicate 30 (Value.int .u8 0) := by simp [keyC, keyI]
theorem rep32 : (List.replicate 32 (Value.int .u8 0)).length = 32 := List.length_replicate

theorem keyC_ones (o : Int) : Ones (keyC o) := Ones.ints _ _
theorem take_key (o : Int) : ((keyC o).drop 0).take 32 = keyC o := by
  rw [List.drop_zero, List.take_of_length_le (by rw [keyC_length]; omega)]

set_option maxHeartbeats 1600000 in
theorem ownerKey_any (o : Int) (h0 : 0 ≤ o) (h1 : o ≤ 65535) (w : World) :
    Calls Trym.prog 21 #[.int .u16 o] w fun e w' => e = .returned (.agg (keyC o).toArray) ∧ Below w.heap.size w w' := by
  obtain ⟨Z, hZ⟩ : ∃ Z, Z = List.replicate 32 (Value.int .u8 0) := ⟨_, rfl⟩
  have z22 := Trym.zero22
  have l32 := rep32
  rw [← hZ] at z22 l32
  have HZ : Hid (Z = List.replicate 32 (Value.int .u8 0)) := hZ
  clear hZ
  go_enter Trym.func21, Trym.ntmps21
  go_wp2_with (first
    | ((with_reducible show wpList _ _ _ (Oper.mk (some 2) (Op.alloc 22) _ _ _ _ :: _) _ _); refine wpList_allocB rfl 22 rfl (.agg Z.toArray) Z z22 rfl ?_; intro g1 w1 hg1 hB1 hgr1)
    | ((with_reducible show wpList _ _ _ (Oper.mk (some 3) (Op.alloc 22) _ _ _ _ :: _) _ _); refine wpList_allocB rfl 22 rfl (.agg Z.toArray) Z z22 rfl ?_; intro g2 w2 hg2 hB2 hgr2)
    | ((with_reducible show wpList _ _ _ (Oper.mk _ (Op.store 5 (Operand.tmp 7) _) _ _ _ _ :: _) _ _); refine wpList_store1B rfl 5 _ _ rfl g2 0 rfl (.int .u8 (o / 256)) rfl rfl rfl Z 22 hB2 Trym.size5 (by omega) ?_; intro w3 hB3 hgr3)
    | ((with_reducible show wpList _ _ _ (Oper.mk _ (Op.store 5 (Operand.tmp 10) _) _ _ _ _ :: _) _ _); refine wpList_store1B rfl 5 _ _ rfl g2 1 rfl (.int .u8 (o % 256)) rfl rfl rfl _ 22 hB3 Trym.size5 (by simp; omega) ?_; intro w4 hB4 hgr4)
    | ((with_reducible show wpList _ _ _ (Oper.mk _ (Op.load 22 _) _ _ _ _ :: _) _ _); rw [HZ.out, rep_key, ← keyC_eq] at hB4; refine wpList_loadB rfl 22 _ rfl g2 0 rfl _ 22 32 hB4 _ Trym.underlying22 rfl Trym.size22 (by rw [keyC_length]; omega) ?_; rw [take_key])
    | ((with_reducible show wpList _ _ _ (Oper.mk _ (Op.store 22 _ _) _ _ _ _ :: _) _ _); refine wpList_storeB rfl 22 _ _ rfl g1 0 rfl (keyC o) rfl Z 22 (((hB1.kept hgr2).grown hgr3 (by have := hB1.lt; intro e; cases e; omega)).grown hgr4 (by have := hB1.lt; intro e; cases e; omega)) (by rw [keyC_length]; exact Trym.size22) (by rw [keyC_length]; omega) (keyC_ones o) ?_; intro w5 hB5 hgr5))
  have eK : putL Z 0 (keyC o) = keyC o := by
    unfold putL
    rw [List.take_zero, List.nil_append, List.drop_of_length_le (by rw [keyC_length]; omega), List.append_nil]
  rw [eK] at hB5
  refine bodyPost_ret (results_cell_row rfl _ _ g1 22 _ (0, 0) _ rfl hB5 Trym.underlying22 rfl (by simpa [keyC_length] using Trym.size22)) rfl ⟨rfl, ?_⟩
  have b2 : Below w.heap.size w w2 := (grownBelow hgr1).trans ((grownBelow hgr2).mono hgr1.size)
  have b3 := b2.grown hgr3 b2.size (fun k hk => by cases hk; exact Nat.le_trans hgr1.size hg2)
  have b4 := b3.grown hgr4 b3.size (fun k hk => by cases hk; exact Nat.le_trans hgr1.size hg2)
  exact b4.grown hgr5 b4.size (fun k hk => by cases hk; exact hg1)
end Go.Proofs.Qxb6000998aMods.E
