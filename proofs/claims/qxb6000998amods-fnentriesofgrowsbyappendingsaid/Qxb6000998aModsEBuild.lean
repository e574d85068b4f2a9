import Derived.Test.Qxb6000998aModsEKey
namespace Go.Proofs.Qxb6000998aMods.E
open Go.RowKit Go.Proofs.Qxb6000998aMods.L

theorem run_conv_up (n : Nat) (h : n < 4294967296) (w : World) : (convert 3 23 (.int .i64 (n : Int))).run Trym.prog w = .ok (.int .u64 (n : Int)) w := by
  have h1 : IntKind.u64.wrap (n : Int) = (n : Int) := by simp only [IntKind.wrap_u64]; omega
  simp [go_sem, h1]
theorem run_conv16 (o : Int) (h0 : 0 ≤ o) (h1 : o ≤ 65535) (w : World) : (convert 54 23 (.int .u16 o)).run Trym.prog w = .ok (.int .u64 o) w := by
  have h1 : IntKind.u64.wrap o = o := by simp only [IntKind.wrap_u64]; omega
  simp [go_sem, h1]
theorem or_tag (i j : Nat) (hj : j < 4294967296) : (i * 4294967296) ||| j = i * 4294967296 + j := by
  have h := Nat.shiftLeft_add_eq_or_of_lt (b := j) (i := 32) (by omega) i
  rw [Nat.shiftLeft_eq] at h
  have e : (2 : Nat) ^ 32 = 4294967296 := by decide
  rw [e] at h
  exact h.symm
theorem shl_wrap (n : Nat) (h : n < 4294967296) : IntKind.u64.wrap ((n : Int) * 4294967296) = (n : Int) * 4294967296 := by
  rw [IntKind.wrap_u64]; omega
theorem or_bits (i j : Nat) (hi : i < 4294967296) (hj : j < 4294967296) : bits .or .u64 ((i : Int) * 4294967296) (j : Int) = tag i j := by
  have h := bits_or_u64_nat (i * 4294967296) j (by omega) (by omega)
  rw [or_tag i j hj] at h
  have e : ((i * 4294967296 : Nat) : Int) = (i : Int) * 4294967296 := by omega
  rw [e] at h
  refine h.trans ?_
  simp only [tag, Int.natCast_add, Int.natCast_mul]
  rfl
theorem run_shl (n : Nat) (h : n < 4294967296) (w : World) : (binOp .shl 23 (.int .u64 (n : Int)) (.int .u64 32)).run Trym.prog w = .ok (.int .u64 ((n : Int) * 4294967296)) w := by
  simp [go_sem]
  exact shl_wrap n h
theorem run_or (i j : Nat) (hi : i < 4294967296) (hj : j < 4294967296) (w : World) : (binOp .or 23 (.int .u64 ((i : Int) * 4294967296)) (.int .u64 (j : Int))).run Trym.prog w = .ok (.int .u64 (tag i j)) w := by
  simp [go_sem]
  exact or_bits i j hi hj

theorem run_blk (tg o : Int) (w : World) : (Instr.build 37 #[(0, .int .u8 2), (2, .int .u64 tg), (7, .int .u64 o)]).run Trym.prog w = .ok (.agg (blk2 tg o).toArray) w := by kernel_rfl
theorem run_ent (tg o : Int) (w : World) : (Instr.build 58 #[(0, .agg (keyC o).toArray), (1, .agg (blk2 tg o).toArray)]).run Trym.prog w = .ok (.agg (ent (tg, o)).toArray) w := by kernel_rfl
/-- The zero entry. -/
def z58 : List Value := List.replicate 65 (.int .u8 0) ++ (.int .u64 0 :: (List.replicate 64 (.int .u8 0) ++ (.slice none 0 0 :: (List.replicate 32 (.int .u8 0) ++ (.int .u64 0 :: List.replicate 64 (.int .u8 0))))))
theorem z58_length : z58.length = 228 := by
  unfold z58
  simp only [List.length_cons, List.length_append, List.length_replicate]
theorem Trym.info58 : (Trym.prog.info? 58).map (fun i => (i.zero, i.size, i.bytes)) = some (some (.agg z58.toArray), 228, 272) := by kernel_rfl
theorem Trym.zero58 : (Trym.prog.info? 58).map (·.zero) = some (some (.agg z58.toArray)) := by kernel_rfl
theorem Trym.size58 : (Trym.prog.info? 58).map (·.size) = some 228 := by kernel_rfl
theorem Trym.info48 : (Trym.prog.info? 48).map (fun i => (i.zero, i.size, i.bytes)) = some (some (.slice none 0 0), 1, 24) := by kernel_rfl
theorem Trym.size48 : (Trym.prog.info? 48).map (·.size) = some 1 := by kernel_rfl

/-- A row of entries of the call's own. -/
def ERow (w : World) (v : Value) (L : List (Int × Int)) : Prop := ∃ b, v = .slice (some ⟨b, 0, none⟩) L.length L.length ∧ Blk w b (flat L) 58
theorem ERow.all {w w' : World} {v : Value} {L : List (Int × Int)} (h : ERow w v L) (b : Below w.heap.size w w') : ERow w' v L := by
  obtain ⟨g, hv, hg⟩ := h
  exact ⟨g, hv, hg.all b⟩
theorem ERow.grown {w w' : World} {v : Value} {L : List (Int × Int)} {k : Nat} (h : ERow w v L) (g : w.grownBy w' (some k)) (hk : ∀ C, ¬ Blk w k C 58) : ERow w' v L := by
  obtain ⟨b, hv, hg⟩ := h
  refine ⟨b, hv, hg.grown g ?_⟩
  intro e
  cases e
  exact hk _ hg

/-- What row i bears after j rounds. -/
def half (L : List (Int × Int)) (j : Nat) : List Value := flat (L.take j) ++ (List.replicate (L.length - j) z58).flatten
theorem half_zero (L : List (Int × Int)) : half L 0 = (List.replicate L.length z58).flatten := by simp [half, flat]
theorem half_all (L : List (Int × Int)) : half L L.length = flat L := by simp [half]
theorem rep_length (n : Nat) : ((List.replicate n z58).flatten).length = n * 228 := by
  induction n with
  | zero => rfl
  | succ n ih => rw [List.replicate_succ, List.flatten_cons, List.length_append, ih, z58_length]; omega
theorem half_length (L : List (Int × Int)) (j : Nat) (hj : j ≤ L.length) : (half L j).length = L.length * 228 := by
  unfold half
  rw [List.length_append, flat_length, rep_length, List.length_take, Nat.min_eq_left hj]
  omega
theorem half_put (L : List (Int × Int)) (j : Nat) (p : Int × Int) (h : L[j]? = some p) : putL (half L j) (j * 228) (ent p) = half L (j + 1) := by
  obtain ⟨hj, e⟩ := List.getElem?_eq_some_iff.1 h
  have e1 : L.length - j = (L.length - (j + 1)) + 1 := by omega
  have l1 : (flat (L.take j)).length = j * 228 := by rw [flat_length, List.length_take, Nat.min_eq_left (by omega)]
  unfold putL half
  rw [e1, List.replicate_succ, List.flatten_cons, ← l1, List.take_left, ent_length]
  rw [List.take_succ_eq_append_getElem hj, e, flat_append, flat_one]
  congr 1
  rw [← List.drop_drop, List.drop_left, List.drop_append_of_le_length (by rw [z58_length]; omega), List.drop_of_length_le (by rw [z58_length]; omega)]
  simp
end Go.Proofs.Qxb6000998aMods.E
