import Derived.Test.Qxb6603070aModsMSame
namespace Go.Proofs.Qxb6603070aMods.M
open Go.RowKit Go.Proofs.Qxb6603070aMods.L

theorem exec_neq_str {P : Program} {o : Oper} {a : Act} {w : World} (t : TypeId) (x y : Operand) (u : TypeId) (ho : o.op = .binOp .neq t x y u) (s : ByteArray) (hx : a.eval x = .string s) (hy : a.eval y = .string s) :
    (execOp a.eval o).run P w = .ok (.value (.bool false)) w := by
  simp [execOp, ho, hx, hy, eqGuard, binOp_string_neq]
theorem exec_pick {P : Program} {o : Oper} {a : Act} {w : World} (x y z : Operand) (ho : o.op = .pick x y z) (b : Bool) (v : Value) (hx : a.eval x = .bool b) (hv : (if b then a.eval y else a.eval z) = v) : (execOp a.eval o).run P w = .ok (.value v) w := by
  cases b <;> simp_all [execOp, go_sem]
theorem exec_fld0 {o : Oper} {a : Act} {w : World} (x : Operand) (ho : o.op = .fieldAddr 43 x 0) (b off : Nat) (hx : a.eval x = .pointer (some ⟨b, off, none⟩)) : (execOp a.eval o).run Trym.prog w = .ok (.value (.pointer (some ⟨b, off, none⟩))) w := by
  have h : (Instr.fieldAt 43 (.pointer (some ⟨b, off, none⟩)) 0).run Trym.prog w = .ok (.pointer (some ⟨b, off, none⟩)) w := by kernel_rfl
  simp only [execOp, ho, hx]
  simp [h]
theorem exec_fld1 {o : Oper} {a : Act} {w : World} (x : Operand) (ho : o.op = .fieldAddr 43 x 1) (b off : Nat) (hx : a.eval x = .pointer (some ⟨b, off, none⟩)) : (execOp a.eval o).run Trym.prog w = .ok (.value (.pointer (some ⟨b, off + 1, none⟩))) w := by
  have h : (Instr.fieldAt 43 (.pointer (some ⟨b, off, none⟩)) 1).run Trym.prog w = .ok (.pointer (some ⟨b, off + 1, none⟩)) w := by kernel_rfl
  simp only [execOp, ho, hx]
  simp [h]
theorem exec_cell {P : Program} {o : Oper} {a : Act} {w : World} (ty : TypeId) (x : Operand) (ho : o.op = .load ty x) (b off : Nat) (hx : a.eval x = .pointer (some ⟨b, off, none⟩)) (d : TypeDesc) (hu : P.underlying ty = some d) (hd : d.isRow = false) (v : Value) (hc : w.cell? ⟨b, off, none⟩ = some v) :
    (execOp a.eval o).run P w = .ok (.value v) w := by
  have ha : (isAgg ty).run P w = .ok false w := by
    unfold isAgg
    cases d <;> simp_all [run_underlying hu, TypeDesc.isRow]
  simp [execOp, ho, hx, Instr.loadAt, Instr.sureAddr, loadVar, ha, hc]

set_option maxHeartbeats 3200000 in
/-- zzSameLocs, where the two rows hold the same. -/
theorem sameLocs_any (gl gp off cl cp : Nat) (L : List P2) (w : World) (hl : L.length ≤ 65536)
    (hG : ∀ k p, L[k]? = some p → ∀ w', Below w.heap.size w w' → w'.rangeAt gl (k * 2) (pc p)) (hW : ∀ k p, L[k]? = some p → ∀ w', Below w.heap.size w w' → w'.cell? ⟨gp, off + k * 2, none⟩ = some (.string p.1) ∧ w'.cell? ⟨gp, off + k * 2 + 1, none⟩ = some (.string p.2)) :
    Calls Trym.prog 29 #[.slice (some ⟨gl, 0, none⟩) L.length cl, .slice (some ⟨gp, off, none⟩) L.length cp] w fun e w' => e = .returned (.bool true) ∧ Below w.heap.size w w' := by
  obtain ⟨fs, hfs⟩ := struct49
  have HG0 : Hid (∀ k p, L[k]? = some p → ∀ w', Below w.heap.size w w' → w'.rangeAt gl (k * 2) (pc p)) := hG
  have HW0 : Hid (∀ k p, L[k]? = some p → ∀ w', Below w.heap.size w w' → w'.cell? ⟨gp, off + k * 2, none⟩ = some (.string p.1) ∧ w'.cell? ⟨gp, off + k * 2 + 1, none⟩ = some (.string p.2)) := hW
  clear hG hW
  go_enter Trym.func29, Trym.ntmps29
  go_wp2
  go_loopw [5] (fun i wr => ∃ k : Nat, k ≤ L.length ∧ i = .int .i64 k ∧ Below w.heap.size w wr)
    (fun i _ => L.length - (intOf i).toNat)
  case atStart => exact ⟨0, Nat.zero_le _, rfl, Below.refl _ _⟩
  case round =>
    obtain ⟨k, hk, rfl, hbr⟩ := hrel
    by_cases hlt : k < L.length
    · obtain ⟨p, hp⟩ : ∃ p, L[k]? = some p := ⟨_, List.getElem?_eq_getElem hlt⟩
      have HG : Hid (∀ w', Below w.heap.size w w' → w'.rangeAt gl (k * 2) (pc p)) := HG0.out k p hp
      have HW : Hid (∀ w', Below w.heap.size w w' → w'.cell? ⟨gp, off + k * 2, none⟩ = some (.string p.1) ∧ w'.cell? ⟨gp, off + k * 2 + 1, none⟩ = some (.string p.2)) := HW0.out k p hp
      clear hp
      go_wp2
      refine wp_region_quietC (fun w' => Below wr.heap.size wr w') (by kernel_rfl) (by kernel_rfl) (Below.refl _ _).drew ?_
      refine wpQuiet_mv _ _ rfl rfl rfl ?_
      go_frame
      refine wpQuiet_mv _ _ rfl rfl rfl ?_
      go_frame
      refine wpQuiet_val rfl (.pointer (some ⟨gl, 0 + k * 2, none⟩)) (fun w' _ => exec_indexB 29 49 _ _ rfl gl 0 _ _ rfl .i64 k rfl hlt Trym.underlying29 2 Trym.size49) ?_
      go_frame
      refine wpQuiet_val rfl (.agg (pc p).toArray) (fun w' hw' => exec_loadB 49 _ rfl gl _ rfl (pc p) (by rw [Nat.zero_add]; exact HG.out w' (hbr.trans (hw'.mono hbr.size))) _ hfs rfl (by rw [pc_length]; exact Trym.size49)) ?_
      go_frame
      refine wpQuiet_callB rfl (.string p.1) 35 #[.agg (pc p).toArray] (fun w' => by simp [go_sem]) (fun w' hw' => (locName_any p w').mono (fun e w'' h => ⟨h.1, hw'.trans (h.2.mono hw'.size)⟩)) ?_
      go_frame
      refine wpQuiet_mv _ _ rfl rfl rfl ?_
      go_frame
      refine wpQuiet_mv _ _ rfl rfl rfl ?_
      go_frame
      refine wpQuiet_val rfl (.pointer (some ⟨gp, off + k * 2, none⟩)) (fun w' _ => exec_indexB 32 43 _ _ rfl gp off _ _ rfl .i64 k rfl hlt Trym.underlying32 2 Trym.size43) ?_
      go_frame
      refine wpQuiet_val rfl (.pointer (some ⟨gp, off + k * 2, none⟩)) (fun w' _ => exec_fld0 _ rfl gp _ rfl) ?_
      go_frame
      refine wpQuiet_val rfl (.string p.1) (fun w' hw' => exec_cell 9 _ rfl gp _ rfl _ Trym.underlying9 rfl _ ((HW.out w' (hbr.trans (hw'.mono hbr.size))).1)) ?_
      go_frame
      refine wpQuiet_val rfl (.bool false) (fun w' hw' => exec_neq_str 9 _ _ 9 rfl p.1 rfl rfl) ?_
      go_frame
      refine wpQuiet_mv _ _ rfl rfl rfl ?_
      go_frame
      refine wpQuiet_mv _ _ rfl rfl rfl ?_
      go_frame
      refine wpQuiet_mv _ _ rfl rfl rfl ?_
      go_frame
      refine wpQuiet_val rfl (.pointer (some ⟨gl, 0 + k * 2, none⟩)) (fun w' _ => exec_indexB 29 49 _ _ rfl gl 0 _ _ rfl .i64 k rfl hlt Trym.underlying29 2 Trym.size49) ?_
      go_frame
      refine wpQuiet_val rfl (.agg (pc p).toArray) (fun w' hw' => exec_loadB 49 _ rfl gl _ rfl (pc p) (by rw [Nat.zero_add]; exact HG.out w' (hbr.trans (hw'.mono hbr.size))) _ hfs rfl (by rw [pc_length]; exact Trym.size49)) ?_
      go_frame
      refine wpQuiet_callB rfl (.string p.2) 36 #[.agg (pc p).toArray] (fun w' => by simp [go_sem]) (fun w' hw' => (locParams_any p w').mono (fun e w'' h => ⟨h.1, hw'.trans (h.2.mono hw'.size)⟩)) ?_
      go_frame
      refine wpQuiet_mv _ _ rfl rfl rfl ?_
      go_frame
      refine wpQuiet_mv _ _ rfl rfl rfl ?_
      go_frame
      refine wpQuiet_val rfl (.pointer (some ⟨gp, off + k * 2, none⟩)) (fun w' _ => exec_indexB 32 43 _ _ rfl gp off _ _ rfl .i64 k rfl hlt Trym.underlying32 2 Trym.size43) ?_
      go_frame
      refine wpQuiet_val rfl (.pointer (some ⟨gp, off + k * 2 + 1, none⟩)) (fun w' _ => exec_fld1 _ rfl gp _ rfl) ?_
      go_frame
      refine wpQuiet_val rfl (.string p.2) (fun w' hw' => exec_cell 9 _ rfl gp _ rfl _ Trym.underlying9 rfl _ ((HW.out w' (hbr.trans (hw'.mono hbr.size))).2)) ?_
      go_frame
      refine wpQuiet_val rfl (.bool false) (fun w' hw' => exec_neq_str 9 _ _ 9 rfl p.2 rfl rfl) ?_
      go_frame
      refine wpQuiet_val rfl (.bool false) (fun w' hw' => exec_pick _ _ _ rfl false _ rfl rfl) ?_
      go_frame
      refine wpQuiet_nil ?_
      intro wq hbq
      have hbq2 : Below w.heap.size w wq := hbr.trans (hbq.mono hbr.size)
      clear hbq hbr
      go_wp2
      go_roundw
      case rel => exact ⟨k + 1, by omega, by go_num, hbq2⟩
      case measure => simp [intOf]; omega
    · go_wp2
      go_ret
      exact ⟨rfl, hbr⟩
end Go.Proofs.Qxb6603070aMods.M
