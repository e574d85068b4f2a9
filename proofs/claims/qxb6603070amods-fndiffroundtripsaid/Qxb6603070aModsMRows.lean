import Derived.Test.Qxb6603070aModsMWalks
namespace Go.Proofs.Qxb6603070aMods.M
open Go.RowKit Go.Proofs.Qxb6603070aMods.L

/-- A pair's two cells. -/
def pc (p : P2) : List Value := [.string p.1, .string p.2]
theorem pc_length (p : P2) : (pc p).length = 2 := rfl
theorem pc_ones (p : P2) : Ones (pc p) := fun v hv => by
  simp only [pc, List.mem_cons, List.not_mem_nil, or_false] at hv
  rcases hv with rfl | rfl <;> rfl
def flatP (L : List P2) : List Value := (L.map pc).flatten
theorem flatP_cons (p : P2) (L : List P2) : flatP (p :: L) = .string p.1 :: .string p.2 :: flatP L := by simp [flatP, pc]
theorem flatP_append (L M : List P2) : flatP (L ++ M) = flatP L ++ flatP M := by simp [flatP]
theorem flatP_length (L : List P2) : (flatP L).length = L.length * 2 := by
  induction L with
  | nil => rfl
  | cons p L ih => rw [flatP_cons, List.length_cons, List.length_cons, ih, List.length_cons]; omega
theorem flatP_ones (L : List P2) : Ones (flatP L) := fun v hv => by
  unfold flatP at hv
  obtain ⟨l, hl, hvl⟩ := List.mem_flatten.1 hv
  obtain ⟨p, _, rfl⟩ := List.mem_map.1 hl
  exact pc_ones p v hvl
theorem flatP_sub (L : List P2) : ∀ (k : Nat) (p : P2), L[k]? = some p → ((flatP L).drop (k * 2)).take 2 = pc p := by
  induction L with
  | nil => intro k p h; simp at h
  | cons q L ih =>
    intro k p h
    rw [flatP_cons]
    cases k with
    | zero =>
      simp at h
      subst h
      simp [pc]
    | succ k =>
      simp at h
      rw [show (k + 1) * 2 = k * 2 + 2 from by omega, List.drop_succ_cons, List.drop_succ_cons]
      exact ih k p h
theorem flatP_put (L : List P2) : ∀ (k : Nat) (p : P2), k < L.length → putL (flatP L) (k * 2) (pc p) = flatP (L.set k p) := by
  induction L with
  | nil => intro k p h; simp at h
  | cons q L ih =>
    intro k p h
    rw [flatP_cons]
    cases k with
    | zero => simp [putL, pc, flatP_cons]
    | succ k =>
      have := ih k p (by simpa using h)
      rw [List.set_cons_succ, flatP_cons, ← this]
      unfold putL
      rw [show (k + 1) * 2 = k * 2 + 2 from by omega, List.take_succ_cons, List.take_succ_cons]
      rw [show k * 2 + 2 + (pc p).length = k * 2 + (pc p).length + 2 from by omega, List.drop_succ_cons, List.drop_succ_cons]
      rfl
theorem flatP_get0 (L : List P2) (k : Nat) (p : P2) (h : L[k]? = some p) : (flatP L)[k * 2]? = some (.string p.1) := by
  have := congrArg (fun l : List Value => l[0]?) (flatP_sub L k p h)
  simpa [pc, List.getElem?_take, List.getElem?_drop] using this
theorem flatP_get1 (L : List P2) (k : Nat) (p : P2) (h : L[k]? = some p) : (flatP L)[k * 2 + 1]? = some (.string p.2) := by
  have := congrArg (fun l : List Value => l[1]?) (flatP_sub L k p h)
  simpa [pc, List.getElem?_take, List.getElem?_drop] using this

theorem struct43 : ∃ fs, Trym.prog.underlying 43 = some (.struct fs) := ⟨_, Trym.underlying43⟩
theorem struct49 : ∃ fs, Trym.prog.underlying 49 = some (.struct fs) := ⟨_, Trym.underlying49⟩
theorem zero49 : (Trym.prog.info? 49).map (·.zero) = some (some (.agg #[.string ByteArray.empty, .string ByteArray.empty])) := by kernel_rfl
theorem run_loc (x y : ByteArray) (w : World) : (Instr.build 49 #[(0, .string x), (1, .string y)]).run Trym.prog w = .ok (.agg (pc (x, y)).toArray) w := by kernel_rfl
theorem run_pair (x y : ByteArray) (w : World) : (Instr.build 43 #[(0, .string x), (1, .string y)]).run Trym.prog w = .ok (.agg (pc (x, y)).toArray) w := by kernel_rfl
theorem exec_of_build {P : Program} {o : Oper} {a : Act} {w : World} {u : Value} (t : TypeId) (ps : Array (Nat × Operand)) (ho : o.op = .build t ps) {parts : Array (Nat × Value)} (hps : (ps.map fun (x : Nat × Operand) => (x.1, a.eval x.2)) = parts) (h : (Instr.build t parts).run P w = .ok u w) : (execOp a.eval o).run P w = .ok (.value u) w := by
  rw [← hps] at h
  simp only [execOp, ho]
  simp [h]

theorem eq_toList {a b : ByteArray} (h : a = b) : (a.toList == b.toList) = true := by rw [h]; simp
theorem ne_toList {a b : ByteArray} (h : a ≠ b) : (a.toList == b.toList) = false := by
  cases hh : (a.toList == b.toList) with
  | false => rfl
  | true => exact absurd (str_ext (by simpa using hh)) h

set_option maxHeartbeats 800000 in
/-- zzBefore. -/
theorem before_any (p q : P2) (n : Bool) (w : World) :
    Calls Trym.prog 33 #[.agg (pc p).toArray, .agg (pc q).toArray, .bool n] w fun e w' => e = .returned (.bool (before n p q)) ∧ Below w.heap.size w w' := by
  obtain ⟨x, y⟩ := p
  obtain ⟨u, v⟩ := q
  by_cases hxu : x = u
  · have hb : before n (x, y) (u, v) = (!n && Op.bytesLess y.toList v.toList) := by simp [before, hxu, sless]
    rw [hb]
    have he := eq_toList hxu
    clear hb hxu
    cases n <;>
    · go_enter Trym.func33, Trym.ntmps33
      go_wp2_with (first
        | ((with_reducible show wpList _ _ _ (Oper.mk (some 3) (Op.box 43 _) _ _ _ _ :: _) _ _); refine wpList_boxB rfl 43 _ rfl _ (pc (x, y)) rfl rfl ?_; intro g1 w1 hg1 hB1 hgr1)
        | ((with_reducible show wpList _ _ _ (Oper.mk (some 4) (Op.box 43 _) _ _ _ _ :: _) _ _); refine wpList_boxB rfl 43 _ rfl _ (pc (u, v)) rfl rfl ?_; intro g2 w2 hg2 hB2 hgr2; have hB1' := hB1.kept hgr2; have c1 : w2.cell? ⟨g1, 0, none⟩ = some (.string x) := hB1'.cell _; have c2 : w2.cell? ⟨g1, 1, none⟩ = some (.string y) := hB1'.cell _; have d1 : w2.cell? ⟨g2, 0, none⟩ = some (.string u) := hB2.cell _; have d2 : w2.cell? ⟨g2, 1, none⟩ = some (.string v) := hB2.cell _))
      go_ret
      exact ⟨rfl, (grownBelow hgr1).trans ((grownBelow hgr2).mono hgr1.size)⟩
  · have hb : before n (x, y) (u, v) = Op.bytesLess x.toList u.toList := by simp [before, hxu, sless]
    rw [hb]
    have he := ne_toList hxu
    clear hb hxu
    go_enter Trym.func33, Trym.ntmps33
    go_wp2_with (first
      | ((with_reducible show wpList _ _ _ (Oper.mk (some 3) (Op.box 43 _) _ _ _ _ :: _) _ _); refine wpList_boxB rfl 43 _ rfl _ (pc (x, y)) rfl rfl ?_; intro g1 w1 hg1 hB1 hgr1)
      | ((with_reducible show wpList _ _ _ (Oper.mk (some 4) (Op.box 43 _) _ _ _ _ :: _) _ _); refine wpList_boxB rfl 43 _ rfl _ (pc (u, v)) rfl rfl ?_; intro g2 w2 hg2 hB2 hgr2; have hB1' := hB1.kept hgr2; have c1 : w2.cell? ⟨g1, 0, none⟩ = some (.string x) := hB1'.cell _; have c2 : w2.cell? ⟨g1, 1, none⟩ = some (.string y) := hB1'.cell _; have d1 : w2.cell? ⟨g2, 0, none⟩ = some (.string u) := hB2.cell _; have d2 : w2.cell? ⟨g2, 1, none⟩ = some (.string v) := hB2.cell _))
    go_ret
    exact ⟨rfl, (grownBelow hgr1).trans ((grownBelow hgr2).mono hgr1.size)⟩

set_option maxHeartbeats 800000 in
/-- ZZMakeLocator. -/
theorem makeLoc_any (x y : ByteArray) (w : World) :
    Calls Trym.prog 31 #[.string x, .string y] w fun e w' => e = .returned (.agg (pc (x, y)).toArray) ∧ Below w.heap.size w w' := by
  obtain ⟨fs, hfs⟩ := struct49
  go_enter Trym.func31, Trym.ntmps31
  go_wp2_with (first
    | ((with_reducible show wpList _ _ _ (Oper.mk _ (Op.alloc 49) _ _ _ _ :: _) _ _); refine wpList_allocB rfl 49 rfl _ [.string ByteArray.empty, .string ByteArray.empty] zero49 rfl ?_; intro g1 w1 hg1 hB1 hgr1)
    | ((with_reducible show wpList _ _ _ (Oper.mk _ (Op.build 49 _) _ _ _ _ :: _) _ _); refine wpList_val rfl (exec_of_build 49 _ rfl (by simp [Act.eval]) (run_loc x y _)) ?_)
    | ((with_reducible show wpList _ _ _ (Oper.mk _ (Op.store 49 _ _) _ _ _ _ :: _) _ _); refine wpList_storeB rfl 49 _ _ rfl g1 0 rfl (pc (x, y)) rfl _ 49 hB1 Trym.size49 (by simp [pc]) (pc_ones _) ?_; intro w2 hB2 hgr2))
  have hB3 : Blk w2 g1 (pc (x, y)) 49 := hB2
  refine bodyPost_ret (results_cell_row rfl _ _ g1 49 _ (0, 0) _ rfl hB3 hfs rfl (by simpa [pc_length] using Trym.size49)) rfl ⟨rfl, ?_⟩
  exact (grownBelow hgr1).grown hgr2 hgr1.size (fun k hk => by cases hk; exact hg1)
end Go.Proofs.Qxb6603070aMods.M
