import Derived.Test.Qxb6000998aModsEMap
namespace Go.Proofs.Qxb6000998aMods.E
open Go.RowKit Go.Proofs.Qxb6000998aMods.L

/-- A proposal whose entries are the row at block b, of n entries. -/
def prop (b n : Nat) : List Value := List.replicate 32 (.int .u8 0) ++ [.slice none 0 0, .int .u64 0, .slice (some ⟨b, 0, none⟩) n n]
theorem prop_length (b n : Nat) : (prop b n).length = 35 := by simp [prop]
theorem prop_34 (b n : Nat) : (prop b n)[34]? = some (.slice (some ⟨b, 0, none⟩) n n) := rfl

/-- The proposals: pointers to blocks, each with a row of entries. -/
def Props (w : World) (gd : Nat) (ps : List Nat) (R : List (List (Int × Int))) : Prop :=
  Blk w gd (ps.map fun p => Value.pointer (some ⟨p, 0, none⟩)) 72 ∧ ps.length = R.length ∧ ∀ (i : Nat) p L, ps[i]? = some p → R[i]? = some L → ∃ b, Blk w p (prop b L.length) 76 ∧ Blk w b (flat L) 58
theorem Props.below {w w' : World} {gd : Nat} {ps : List Nat} {R : List (List (Int × Int))} (h : Props w gd ps R) (hb : Below w.heap.size w w') : Props w' gd ps R := by
  obtain ⟨h1, h2, h3⟩ := h
  refine ⟨h1.all hb, h2, fun i p L hp hL => ?_⟩
  obtain ⟨b, k1, k2⟩ := h3 i p L hp hL
  exact ⟨b, k1.all hb, k2.all hb⟩

/-- The set of owners that are taken. -/
def kvOf (acc : List (Int × Int)) : List (Int × Value) := acc.map fun p => (p.2, .bool true)
theorem kvOf_snoc (acc : List (Int × Int)) (p : Int × Int) : kvOf (acc ++ [p]) = kvOf acc ++ [(p.2, .bool true)] := by simp [kvOf]
theorem at_hit {acc : List (Int × Int)} {o : Int} (h : acc.any (fun q => decide (q.2 = o)) = true) : ((atKey o (kvOf acc) 0).map (·.2)).getD (.bool false) = .bool true := by
  obtain ⟨q, hq, hqo⟩ := List.any_eq_true.1 h
  cases hk : atKey o (kvOf acc) 0 with
  | none =>
    rw [atKey_none] at hk
    exact absurd (by simpa using hqo) (hk (q.2, .bool true) (List.mem_map.2 ⟨q, hq, rfl⟩))
  | some y =>
    have := atKey_get o (kvOf acc) y.1 y.2 hk
    simp [kvOf] at this
    obtain ⟨a, _, _, h3⟩ := this
    simp [← h3]
theorem at_miss {acc : List (Int × Int)} {o : Int} (h : acc.any (fun q => decide (q.2 = o)) = false) : atKey o (kvOf acc) 0 = none := by
  rw [atKey_none]
  intro p hp e
  obtain ⟨q, hq, rfl⟩ := List.mem_map.1 hp
  have : acc.any (fun q => decide (q.2 = o)) = true := List.any_eq_true.2 ⟨q, hq, by simpa using e⟩
  rw [this] at h; cases h

theorem take_ent (p : Int × Int) : ((ent p).drop 0).take 228 = ent p := by
  rw [List.drop_zero, List.take_of_length_le (by rw [ent_length]; omega)]
theorem take_own (p : Int × Int) : ((ent p).drop 0).take 32 = keyC p.2 := by rw [List.drop_zero, ent_owner]
theorem put_ent (p : Int × Int) : putL z58 0 (ent p) = ent p := by
  unfold putL
  rw [List.take_zero, List.nil_append, List.drop_of_length_le (by rw [ent_length, z58_length]; omega), List.append_nil]
theorem Trym.zs58 : (Trym.prog.info? 58).map (fun i => (i.zero, i.size)) = some (some (.agg z58.toArray), 228) := by kernel_rfl
theorem struct58 : ∃ fs, Trym.prog.underlying 58 = some (.struct fs) := by
  have h : (match Trym.prog.underlying 58 with | some (.struct _) => true | _ => false) = true := by kernel_rfl
  split at h
  · rename_i fs hfs; exact ⟨fs, hfs⟩
  · cases h

theorem mem_flat_le : ∀ (R : List (List (Int × Int))) (L : List (Int × Int)), L ∈ R → L.length ≤ R.flatten.length
  | [], _, h => by cases h
  | M :: R, L, h => by
    rw [List.flatten_cons, List.length_append]
    rcases List.mem_cons.1 h with rfl | h2
    · omega
    · have := mem_flat_le R L h2; omega
theorem pre_le (R : List (List (Int × Int))) (k : Nat) (L : List (Int × Int)) (j : Nat) (h : R[k]? = some L) : ((R.take k).flatten ++ L.take j).length ≤ R.flatten.length := by
  obtain ⟨hk, e⟩ := List.getElem?_eq_some_iff.1 h
  have h1 : R.flatten = (R.take k).flatten ++ (L ++ (R.drop (k + 1)).flatten) := by
    rw [← e]
    have : R = R.take k ++ (R[k] :: R.drop (k + 1)) := by rw [← List.drop_eq_getElem_cons hk, List.take_append_drop]
    rw [← List.flatten_cons, ← List.flatten_append, ← this]
  rw [h1]
  simp only [List.length_append, List.length_take]
  omega
theorem take_row (R : List (List (Int × Int))) (k : Nat) (L : List (Int × Int)) (h : R[k]? = some L) : (R.take (k + 1)).flatten = (R.take k).flatten ++ L := by
  obtain ⟨hk, e⟩ := List.getElem?_eq_some_iff.1 h
  rw [List.take_succ_eq_append_getElem hk, e]
  simp
theorem take_ent1 (L : List (Int × Int)) (j : Nat) (q : Int × Int) (h : L[j]? = some q) : L.take (j + 1) = L.take j ++ [q] := by
  obtain ⟨hk, e⟩ := List.getElem?_eq_some_iff.1 h
  rw [List.take_succ_eq_append_getElem hk, e]

set_option maxHeartbeats 8000000 in
theorem entries_any (gd : Nat) (ps : List Nat) (R : List (List (Int × Int))) (w : World) (hR : R.length ≤ 65537) (hn : R.flatten.length ≤ 65536) (hP : Props w gd ps R) :
    Calls Trym.prog 29 #[.slice (some ⟨gd, 0, none⟩) R.length R.length] w fun e w' => ∃ v, e = .returned v ∧ w'.ownsRow w.heap.size 58 228 v (dd R.flatten).length (flat (dd R.flatten)) ∧ Below w.heap.size w w' := by
  obtain ⟨hBd, hpl, hprops⟩ := hP
  obtain ⟨fs58, hfs58⟩ := struct58
  obtain ⟨i0, hi, hz0, hz1, hz2⟩ := info_parts Trym.info58
  go_enter Trym.func29, Trym.ntmps29
  go_wp2_with (first | ((with_reducible show wpList _ _ _ (Oper.mk _ (Op.makeMap _ _) _ _ _ _ :: _) _ _); refine wpList_makeMapB K22 rfl 78 rfl ?_; intro gm w1 hgm hM hgr1) | fail)
  have hb1 := grownBelow hgr1
  go_loopw [3, 12] (fun v i wr => ∃ (k : Nat), k ≤ R.length ∧ i = .int .i64 k ∧ wr.ownsRow w.heap.size 58 228 v (dd (R.take k).flatten).length (flat (dd (R.take k).flatten)) ∧ MapB wr gm K22 (kvOf (dd (R.take k).flatten)) ∧ Below w.heap.size w wr)
    (fun _ i _ => R.length - (intOf i).toNat)
  case atStart => exact ⟨0, Nat.zero_le _, rfl, by simpa [dd, flat] using World.ownsRow_nil _ _ _ _, by simpa [dd, kvOf] using hM, hb1⟩
  case round =>
    obtain ⟨wo, rfl⟩ : ∃ wo : World, wo = wr := ⟨_, rfl⟩
    obtain ⟨k, hk, rfl, hown, hMo, hbel⟩ := hrel
    clear hM hgr1 hb1
    by_cases hlt : k < R.length
    · obtain ⟨L, hL⟩ : ∃ L, R[k]? = some L := ⟨_, List.getElem?_eq_getElem hlt⟩
      obtain ⟨p, hp⟩ : ∃ p, ps[k]? = some p := ⟨_, List.getElem?_eq_getElem (by omega)⟩
      obtain ⟨b, hBp, hBb⟩ := hprops k p L hp hL
      have hcd : wo.cell? ⟨gd, k, none⟩ = some (.pointer (some ⟨p, 0, none⟩)) := by
        rw [(hBd.all hbel).cell, List.getElem?_map, hp]; rfl
      have hcp : wo.cell? ⟨p, 34, none⟩ = some (.slice (some ⟨b, 0, none⟩) L.length L.length) := by
        rw [(hBp.all hbel).cell, prop_34]
      have hLl : L.length ≤ 65536 := Nat.le_trans (mem_flat_le R L (List.mem_of_getElem? hL)) hn
      have hpre : ∀ j, (dd ((R.take k).flatten ++ L.take j)).length ≤ 65536 := fun j => Nat.le_trans (dd_length_le _) (Nat.le_trans (pre_le R k L j hL) hn)
      have HL : Hid (R[k]? = some L) := hL
      clear hL hp
      go_wp2
      go_loopw [3, 22] (fun v i wr => ∃ (j : Nat), j ≤ L.length ∧ i = .int .i64 j ∧ wr.ownsRow w.heap.size 58 228 v (dd ((R.take k).flatten ++ L.take j)).length (flat (dd ((R.take k).flatten ++ L.take j))) ∧ MapB wr gm K22 (kvOf (dd ((R.take k).flatten ++ L.take j))) ∧ Below w.heap.size w wr)
        (fun _ i _ => L.length - (intOf i).toNat)
      case atStart => exact ⟨0, Nat.zero_le _, rfl, by simpa using hown, by simpa using hMo, hbel⟩
      case round =>
        obtain ⟨j, hj, rfl, hownr, hMr, hbr⟩ := hrel
        have hacl := hpre j
        by_cases hjl : j < L.length
        · obtain ⟨q, hq⟩ : ∃ q, L[j]? = some q := ⟨_, List.getElem?_eq_getElem hjl⟩
          have HS : Hid (dd ((R.take k).flatten ++ L.take (j + 1)) = step (dd ((R.take k).flatten ++ L.take j)) q) := by
            show _ = _
            rw [take_ent1 L j q hq, ← List.append_assoc, dd_snoc]
          obtain ⟨acc, hacc⟩ : ∃ acc, acc = dd ((R.take k).flatten ++ L.take j) := ⟨_, rfl⟩
          rw [← hacc] at hownr hMr hacl HS
          have hBbr := hBb.all hbr
          have hsub := flat_sub L j q hq
          have hfl := flat_length L
          clear hacc hpre hq hown hMo hcd hcp hbel
          clear wo
          cases hh : acc.any (fun x => decide (x.2 = q.2)) with
          | true =>
            have hat := at_hit hh
            have HST : Hid (step acc q = acc) := step_hit hh
            have HAT : Hid (((atKey q.2 (kvOf acc) 0).map (·.2)).getD (.bool false) = .bool true) := hat
            clear hh hat
            go_wp2_with (first
              | ((with_reducible show wpList _ _ _ (Oper.mk _ (Op.load 58 (Operand.tmp 24)) _ _ _ _ :: _) _ _); refine wpList_loadB rfl 58 _ rfl b (j * 228) rfl _ 58 228 hBbr _ hfs58 rfl Trym.size58 (by omega) ?_; rw [hsub])
              | ((with_reducible show wpList _ _ _ (Oper.mk _ (Op.alloc 58) _ _ _ _ :: _) _ _); refine wpList_allocB rfl 58 rfl (.agg z58.toArray) z58 Trym.zero58 rfl ?_; intro ge w2 hge hBe hgr2)
              | ((with_reducible show wpList _ _ _ (Oper.mk _ (Op.store 58 _ _) _ _ _ _ :: _) _ _); refine wpList_storeB rfl 58 _ _ rfl ge 0 rfl (ent q) rfl z58 58 hBe (by rw [ent_length]; exact Trym.size58) (by rw [ent_length, z58_length]; omega) (ent_ones q) ?_; intro w3 hBe3 hgr3; rw [put_ent] at hBe3; have hb3 : Below wr.heap.size wr w3 := (grownBelow hgr2).grown hgr3 hgr2.size (fun x hx => by cases hx; exact hge); have hM3 := hMr.all hb3; have hown3 := own_all hownr hb3)
              | ((with_reducible show wpList _ _ _ (Oper.mk _ (Op.load 22 (Operand.tmp 27)) _ _ _ _ :: _) _ _); refine wpList_loadB rfl 22 _ rfl ge 0 rfl _ 58 32 hBe3 _ Trym.underlying22 rfl Trym.size22 (by rw [ent_length]; omega) ?_; rw [take_own])
              | ((with_reducible show wpList _ _ _ (Oper.mk _ (Op.lookup 78 _ _ _) _ _ _ _ :: _) _ _); refine wpList_lookupV rfl 78 _ _ false rfl 22 4 Trym.underlying78 keys22 gm rfl _ hM3 q.2 rfl (.bool false) Trym.zero4 (.bool true) (by rw [if_neg (by decide)]; exact HAT.out) ?_))
            go_roundw
            case rel =>
              refine ⟨j + 1, by omega, by go_num, ?_, ?_, hbr.trans (hb3.mono hbr.size)⟩
              · rw [HS.out, HST.out]; exact hown3
              · rw [HS.out, HST.out]; exact hM3
            case measure => simp [intOf]; omega
          | false =>
            have hat := at_miss hh
            have HST : Hid (step acc q = acc ++ [q]) := step_miss hh
            have HAT : Hid (atKey q.2 (kvOf acc) 0 = none) := hat
            clear hh hat
            go_wp2_with (first
              | ((with_reducible show wpList _ _ _ (Oper.mk _ (Op.load 58 (Operand.tmp 24)) _ _ _ _ :: _) _ _); refine wpList_loadB rfl 58 _ rfl b (j * 228) rfl _ 58 228 hBbr _ hfs58 rfl Trym.size58 (by omega) ?_; rw [hsub])
              | ((with_reducible show wpList _ _ _ (Oper.mk _ (Op.alloc 58) _ _ _ _ :: _) _ _); refine wpList_allocB rfl 58 rfl (.agg z58.toArray) z58 Trym.zero58 rfl ?_; intro ge w2 hge hBe hgr2)
              | ((with_reducible show wpList _ _ _ (Oper.mk _ (Op.store 58 _ _) _ _ _ _ :: _) _ _); refine wpList_storeB rfl 58 _ _ rfl ge 0 rfl (ent q) rfl z58 58 hBe (by rw [ent_length]; exact Trym.size58) (by rw [ent_length, z58_length]; omega) (ent_ones q) ?_; intro w3 hBe3 hgr3; rw [put_ent] at hBe3; have hb3 : Below wr.heap.size wr w3 := (grownBelow hgr2).grown hgr3 hgr2.size (fun x hx => by cases hx; exact hge); have hM3 := hMr.all hb3; have hown3 := own_all hownr hb3)
              | ((with_reducible show wpList _ _ _ (Oper.mk _ (Op.load 22 (Operand.tmp 27)) _ _ _ _ :: _) _ _); refine wpList_loadB rfl 22 _ rfl ge 0 rfl _ 58 32 hBe3 _ Trym.underlying22 rfl Trym.size22 (by rw [ent_length]; omega) ?_; rw [take_own])
              | ((with_reducible show wpList _ _ _ (Oper.mk _ (Op.lookup 78 _ _ _) _ _ _ _ :: _) _ _); refine wpList_lookupV rfl 78 _ _ false rfl 22 4 Trym.underlying78 keys22 gm rfl _ hM3 q.2 rfl (.bool false) Trym.zero4 (.bool false) (by rw [if_neg (by decide), HAT.out]; rfl) ?_)
              | ((with_reducible show wpList _ _ _ (Oper.mk _ (Op.load 22 (Operand.tmp 32)) _ _ _ _ :: _) _ _); refine wpList_loadB rfl 22 _ rfl ge 0 rfl _ 58 32 hBe3 _ Trym.underlying22 rfl Trym.size22 (by rw [ent_length]; omega) ?_; rw [take_own])
              | ((with_reducible show wpList _ _ _ (Oper.mk _ (Op.mapUpdate 78 _ _ _) _ _ _ _ :: _) _ _); refine wpList_updateNew rfl 78 _ _ _ rfl 22 4 Trym.underlying78 keys22 gm rfl _ hM3 q.2 rfl (.bool true) rfl HAT.out ?_; intro w4 hM4 hgr4; have hBe4 := hBe3.grown hgr4 (blk_not_map hBe3 hM3); have hown4 := own_grown hown3 hgr4 (.inr (own_not_map hown3 hM3)))
              | ((with_reducible show wpList _ _ _ (Oper.mk _ (Op.load 58 (Operand.tmp 8)) _ _ _ _ :: _) _ _); refine wpList_loadB rfl 58 _ rfl ge 0 rfl _ 58 228 hBe4 _ hfs58 rfl Trym.size58 (by rw [ent_length]; omega) ?_; rw [take_ent])
              | ((with_reducible show wpList _ _ _ (Oper.mk _ (Op.buildSlice 48 _ _) _ _ _ _ :: _) _ _); refine wpList_buildSliceB rfl 48 58 _ rfl (ent q) rfl Trym.underlying48 z58 228 Trym.zs58 z58_length (ent_length q) (by omega) (by omega) ?_; intro gs w5 hgs hBs hgr5; have hown5 := own_all hown4 (grownBelow hgr5); have hM5 := hM4.all (grownBelow hgr5))
              | (at_builtin; refine wpList_append_own _ rfl _ _ 48 rfl w.heap.size 58 i0 (.agg z58.toArray) 228 272 Trym.underlying48 hi hz0 hz1 hz2 z58_length (by decide) _ _ _ rfl hown5 ⟨gs, 0, none⟩ 1 1 (ent q) rfl (ent_length q) (fun x u hu => by rw [Addr.add_lit, Nat.zero_add, hBs.cell]; exact hu) (ent_ones q) (by unfold maxLen; omega) (by omega) (by have h1 := hbr.size; have h3 := hb3.size; have h4 := hgr4.size; have h5 := hgr5.size; omega) ?_; intro v6 w6 hown6 hgr6 _))
            replace hgr6 : w5.grownBy w6 u3.ownBlock := hgr6
            have hM6 := hM5.grown hgr6 (fun e => own_not_map hown5 hM5 e.symm)
            have c3 : Below w.heap.size w w3 := hbr.trans (hb3.mono hbr.size)
            have c4 : Below w.heap.size w w4 := c3.grown hgr4 c3.size (fun x hx => by cases hx; exact hgm)
            have c5 : Below w.heap.size w w5 := c4.trans ((grownBelow hgr5).mono c4.size)
            have c6 : Below w.heap.size w w6 := c5.grown hgr6 c5.size (fun x hx => (hown5.lt x hx).1)
            go_roundw
            case rel =>
              refine ⟨j + 1, by omega, by go_num, ?_, ?_, c6⟩
              · rw [HS.out, HST.out, flat_append, flat_one, List.length_append]; exact hown6
              · rw [HS.out, HST.out, kvOf_snoc]; exact hM6
            case measure => simp [intOf]; omega
        · obtain rfl : j = L.length := by omega
          rw [List.take_length, ← take_row R k L HL.out] at hownr hMr
          go_wp2
          go_roundw
          case rel => exact ⟨k + 1, by omega, by go_num, hownr, hMr, hbr⟩
          case measure => simp [intOf]; omega
    · obtain rfl : k = R.length := by omega
      rw [List.take_length] at hown
      go_wp2
      go_ret
      exact ⟨_, rfl, hown, hbel⟩
end Go.Proofs.Qxb6000998aMods.E
