import Derived.Test.Qxb6603070aModsDSrc
namespace Go.Proofs.Qxb6603070aMods.M
open Go.RowKit Go.Proofs.Qxb6603070aMods.L

theorem run_append_none {P : Program} {w : World} {t ty e : TypeId} {i : TypeInfo} (ht : P.underlying t = some (.slice e)) (hi : P.info? e = some i) {base size : Nat} {v : Value} {n : Nat} {xs : List Value} (hown : w.ownsRow base e size v n xs) :
    (Builtin.append_ #[t, t] ty #[v, .slice none 0 0]).run P w = .ok v w := by
  rcases hown.2 with ⟨rfl, rfl⟩ | ⟨g, cap, cur, rfl, hbg, hg, hnc, hcm, hcs, htake⟩
  · simp [Builtin.append_, run_underlying ht, sizeOf, typeInfo, hi, Builtin.lenOf, Builtin.firstCells]
  · simp [Builtin.append_, run_underlying ht, sizeOf, typeInfo, hi, Builtin.lenOf, Builtin.firstCells, hnc, storeCells]
/-- append(v, row...): a row to be read, nil or not. -/
theorem wpList_append_src {ops : Array Oper} {rest : List Oper} {o : Oper} {a : Act} {w : World} {Q : Exit → Act → World → Prop} (hgd : o.guard = none) (s x : Operand)
    (ho : o.op = .call { callee := .builtin .append, args := #[s, x], argTypes := #[32, 32] }) (base : Nat) (v : Value) (W : List P2) (hs : a.eval s = v) (hown : w.ownsRow base 43 2 v W.length (flatP W))
    (b : Option Addr) (c : Nat) (L : List P2) (hx : a.eval x = .slice b L.length c) (hS : Src w b c L) (hl : W.length + L.length ≤ 262144) (hbase : base ≤ w.heap.size)
    (h : ∀ v' w', w'.ownsRow base 43 2 v' (W ++ L).length (flatP (W ++ L)) → w.grownBy w' v.ownBlock → wpList Trym.prog ops Q rest (a.put o.dst v') w') : wpList Trym.prog ops Q (o :: rest) a w := by
  obtain ⟨i0, hi, hz0, hz1, hz2⟩ := info_parts Trym.info43
  rcases hS with ⟨rfl, rfl, rfl⟩ | ⟨g, rfl, hr⟩
  · refine wpList_plain hgd fun K hK => ?_
    have hrun := run_append_none (P := Trym.prog) (ty := o.type) Trym.underlying32 hi hown
    have hx' : a.eval x = .slice none 0 0 := hx
    unfold Oper.wp execOp
    simp only [ho, resolve, invoke, builtin, Sem.run_bind, Sem.run_pure, Result.andThen_ok, List.map_toArray, List.map_cons, List.map_nil, hs, hx', hrun]
    exact hK _ _ (h v w (by rw [List.append_nil]; exact hown) ⟨rfl, rfl, rfl, Nat.le_refl _, fun _ _ _ => rfl⟩)
  · have hr0 := hr w (Below.refl _ _)
    refine wpList_append_own_wide w hgd s x 32 ho base 43 i0 (.agg #[.string ByteArray.empty, .string ByteArray.empty]) 2 32 Trym.underlying32 hi hz0 hz1 hz2 rfl (by omega) v W.length (flatP W) hs hown ⟨g, 0, none⟩ L.length c (flatP L) hx (flatP_length L) (fun j u hu => by rw [Addr.add_lit]; exact hr0 j u hu) (flatP_ones L) (by unfold maxLen; omega) (by omega) hbase ?_
    intro v' w' h1 h2 _
    refine h v' w' ?_ h2
    rw [flatP_append, List.length_append]
    exact h1

set_option maxHeartbeats 3200000 in
/-- zzAppendPairs. -/
theorem appendPairs_any (a b : Option Addr) (c d : Nat) (L M : List P2) (w : World) (hl : L.length + M.length ≤ 262144) (hS : Src w a c L) (hT : Src w b d M) :
    Calls Trym.prog 25 #[.slice a L.length c, .slice b M.length d] w fun e w' => ∃ a' c', e = .returned (.slice a' (L ++ M).length c') ∧ Src w' a' c' (L ++ M) ∧ Below w.heap.size w w' := by
  obtain ⟨i0, hi, hz0, hz1, hz2⟩ := info_parts Trym.info43
  have HHI : Hid (Trym.prog.info? 43 = some i0) := hi
  have HZ0 : Hid (i0.zero = some (.agg #[.string ByteArray.empty, .string ByteArray.empty])) := hz0
  have HZ1 : Hid (i0.size = 2) := hz1
  have HZ2 : Hid (i0.bytes = 32) := hz2
  have HS : Hid (Src w a c L) := hS
  have HT : Hid (Src w b d M) := hT
  clear hS hT hi hz0 hz1 hz2
  go_enter Trym.func25, Trym.ntmps25
  go_wp2_with (first
    | (at_make; refine wpList_make_own _ rfl _ _ 32 rfl w.heap.size 43 i0 (.agg #[.string ByteArray.empty, .string ByteArray.empty]) 2 Trym.underlying32 HHI.out HZ0.out HZ1.out _ _ _ (L.length + M.length) rfl rfl (by simp) (by rw [HZ2.out]; omega) (by unfold maxLen; omega) (Nat.le_refl _) ?_; intro w1 hown1 hgr1)
    | ((with_reducible show wpList _ _ _ (Oper.mk (some 14) (Op.call _) _ _ _ _ :: _) _ _); refine wpList_append_src rfl _ _ rfl w.heap.size _ [] rfl hown1 a c L rfl (HS.out.all (grownBelow hgr1)) (by simp; omega) hgr1.size ?_; intro v2 w2 hown2 hgr2; have hb2 : Below w.heap.size w w2 := (grownBelow hgr1).grown hgr2 hgr1.size (fun q hq => row_ge hown1 hq))
    | ((with_reducible show wpList _ _ _ (Oper.mk (some 17) (Op.call _) _ _ _ _ :: _) _ _); refine wpList_append_src rfl _ _ rfl w.heap.size _ L rfl hown2 b d M rfl (HT.out.all hb2) hl hb2.size ?_; intro v3 w3 hown3 hgr3; have hb3 : Below w.heap.size w w3 := hb2.grown hgr3 hb2.size (fun q hq => row_ge hown2 hq)))
  go_ret
  obtain ⟨a', c', hv, hSrc⟩ := Src.grown hown3 rfl
  subst hv
  exact ⟨a', c', rfl, hSrc, hb3⟩
end Go.Proofs.Qxb6603070aMods.M
