import Derived.Test.Qxb6603070aModsMParP
import Derived.Test.Qxb6603070aModsMTree
import Derived.Deep.DeepCutAuto
namespace Go.Proofs.Qxb6603070aMods.M
open Go.RowKit Go.Proofs.Qxb6603070aMods.L

def hasP (p : P2) : Bool := !decide (p.2 = ByteArray.empty)
def withP (L : List P2) : List P2 := L.filter hasP
def treeP : List Hs := [.take 0, .take 1, .take 2, .take 3, .take 4, .take 5, .take 7, .both 6 8, .run 9, .run 10]

theorem exec_lookB {o : Oper} {a : Act} {w : World} (x y : Operand) (ho : o.op = .lookup 45 x y false) (m : Nat) (k : ByteArray) (hx : a.eval x = .map (some m)) (hy : a.eval y = .string k) (u : Value) (h : (Instr.lookup 45 (.map (some m)) (.string k) false).run Trym.prog w = .ok u w) :
    (execOp a.eval o).run Trym.prog w = .ok (.value u) w := by
  simp only [execOp, ho, hx, hy]
  simp [h]
theorem exec_lfld0 {o : Oper} {a : Act} {w : World} (x : Operand) (ho : o.op = .fieldAddr 49 x 0) (b off : Nat) (hx : a.eval x = .pointer (some ⟨b, off, none⟩)) : (execOp a.eval o).run Trym.prog w = .ok (.value (.pointer (some ⟨b, off, none⟩))) w := by
  have h : (Instr.fieldAt 49 (.pointer (some ⟨b, off, none⟩)) 0).run Trym.prog w = .ok (.pointer (some ⟨b, off, none⟩)) w := by kernel_rfl
  simp only [execOp, ho, hx]
  simp [h]

theorem build49 : (Trym.prog.info? 49).map (fun i => (i.zero, i.size)) = some (some (.agg #[.string ByteArray.empty, .string ByteArray.empty]), 2) := by kernel_rfl
theorem new_row (w : World) (C : List Value) (e : TypeId) : ∃ g w', Blk w' g C e ∧ Below w.heap.size w w' ∧ w.heap.size = g ∧ w.alloc (.cells C.toArray e) = w' :=
  ⟨_, _, heap_alloc_new w _, grownBelow (World.grownBy_alloc w _ none), rfl, rfl⟩
theorem own_ge {w : World} {base : Nat} {e : TypeId} {size : Nat} {v : Value} {n : Nat} {xs : List Value} (h : w.ownsRow base e size v n xs) {q : Nat} (hq : v.ownBlock = some q) : base ≤ q := by
  rcases h.2 with ⟨rfl, _⟩ | ⟨g, cap, cur, rfl, hb, _⟩
  · simp [Value.ownBlock] at hq
  · simp [Value.ownBlock] at hq
    subst hq
    exact hb
theorem none_str : ByteArray.empty.toList = [] := by simp
theorem isEmpty_str {s : ByteArray} (h : s = ByteArray.empty) : s.toList.isEmpty = true := by rw [h, none_str]; rfl
theorem notEmpty_str {s : ByteArray} (h : s ≠ ByteArray.empty) : s.toList.isEmpty = false := by
  cases hh : s.toList.isEmpty with
  | false => rfl
  | true => exact absurd (str_ext (by rw [none_str]; exact List.isEmpty_iff.1 hh)) h

set_option maxRecDepth 100000 in
set_option maxHeartbeats 8000000 in
/-- paramsOf. -/
theorem paramsOf_any (a : Option Addr) (L : List P2) (w : World) (hl : L.length ≤ 65536) (hP : Prs 49 w a L) :
    Calls Trym.prog 38 #[.slice a L.length L.length] w fun e w' => ∃ v, e = .returned v ∧ Params w.heap.size w' v (withP L) ∧ Below w.heap.size w w' := by
  have HP : Hid (Prs 49 w a L) := hP
  obtain ⟨fs, hfs⟩ := struct49
  clear hP
  go_enter Trym.func38, Trym.ntmps38
  go_wp2
  go_loopw [3, 8] (fun v i wr => ∃ k : Nat, k ≤ L.length ∧ i = .int .i64 k ∧ Params w.heap.size wr v (withP (L.take k)) ∧ Below w.heap.size w wr)
    (fun _ i _ => L.length - (intOf i).toNat)
  case atStart => exact ⟨0, Nat.zero_le _, rfl, .inl ⟨rfl, rfl⟩, Below.refl _ _⟩
  case round =>
    obtain ⟨k, hk, rfl, hPar, hbr⟩ := hrel
    by_cases hlt : k < L.length
    · obtain ⟨p, hp⟩ : ∃ p, L[k]? = some p := ⟨_, List.getElem?_eq_getElem hlt⟩
      rcases HP.out with ⟨_, h0⟩ | ⟨g, rfl, hB⟩
      · rw [h0] at hp; simp at hp
      have hra : wr.rangeAt g (k * 2) (pc p) := pair_range (hB.all hbr) hp
      have HTK : Hid (L.take (k + 1) = L.take k ++ [p]) := take_snoc L k p hp
      have HPAR : Hid (Params w.heap.size wr _ (withP (L.take k))) := hPar
      obtain ⟨r, rfl⟩ : ∃ r, u3 = .map r := by
        rcases hPar with ⟨h, _⟩ | ⟨m, kv, h, _⟩ <;> exact ⟨_, h⟩
      have hn0 := fun (w : World) => run_eql_map_nil (P := Trym.prog) w 45 9 29 r Trym.underlying45
      clear hp hB hPar
      by_cases he : p.2 = ByteArray.empty
      · have hq := isEmpty_str he
        have HW : Hid (withP (L.take (k + 1)) = withP (L.take k)) := by
          show _ = _
          rw [HTK.out]
          simp [withP, hasP, he]
        clear he
        go_wp2_with (first
          | ((with_reducible show wpList _ _ _ (Oper.mk _ (Op.load 49 _) _ _ _ _ :: _) _ _); refine wpList_val rfl (exec_loadB 49 _ rfl g (k * 2) rfl (pc p) hra _ hfs rfl (by rw [pc_length]; exact Trym.size49)) ?_)
          | ((with_reducible show wpList _ _ _ (Oper.mk _ (Op.alloc 49) _ _ _ _ :: _) _ _); refine wpList_allocB rfl 49 rfl _ [.string ByteArray.empty, .string ByteArray.empty] zero49 rfl ?_; intro ge w2 hge hBe hgr2)
          | ((with_reducible show wpList _ _ _ (Oper.mk _ (Op.store 49 _ _) _ _ _ _ :: _) _ _); refine wpList_storeB rfl 49 _ _ rfl ge 0 rfl (pc p) rfl _ 49 hBe Trym.size49 (by simp [pc]) (pc_ones _) ?_; intro w3 hBe3 hgr3; have hB3 : Blk w3 ge (pc p) 49 := hBe3; have c1 : w3.cell? ⟨ge, 1, none⟩ = some (.string p.2) := hB3.cell _; have hb3 : Below wr.heap.size wr w3 := (grownBelow hgr2).grown hgr3 hgr2.size (fun x hx => by cases hx; exact hge)))
        go_roundw
        case rel => exact ⟨k + 1, by omega, by go_num, by rw [HW.out]; exact HPAR.out.all hb3, hbr.trans (hb3.mono hbr.size)⟩
        case measure => simp [intOf]; omega
      · have hq := notEmpty_str he
        have HW : Hid (withP (L.take (k + 1)) = withP (L.take k) ++ [p]) := by
          show _ = _
          rw [HTK.out]
          simp [withP, hasP, he]
        clear he
        go_upto_if 16 with (first
          | ((with_reducible show wpList _ _ _ (Oper.mk _ (Op.load 49 _) _ _ _ _ :: _) _ _); refine wpList_val rfl (exec_loadB 49 _ rfl g (k * 2) rfl (pc p) hra _ hfs rfl (by rw [pc_length]; exact Trym.size49)) ?_)
          | ((with_reducible show wpList _ _ _ (Oper.mk _ (Op.alloc 49) _ _ _ _ :: _) _ _); refine wpList_allocB rfl 49 rfl _ [.string ByteArray.empty, .string ByteArray.empty] zero49 rfl ?_; intro ge w2 hge hBe hgr2)
          | ((with_reducible show wpList _ _ _ (Oper.mk _ (Op.store 49 _ _) _ _ _ _ :: _) _ _); refine wpList_storeB rfl 49 _ _ rfl ge 0 rfl (pc p) rfl _ 49 hBe Trym.size49 (by simp [pc]) (pc_ones _) ?_; intro w3 hBe3 hgr3; have hB3 : Blk w3 ge (pc p) 49 := hBe3; have c1 : w3.cell? ⟨ge, 1, none⟩ = some (.string p.2) := hB3.cell _; have hb3 : Below wr.heap.size wr w3 := (grownBelow hgr2).grown hgr3 hgr2.size (fun x hx => by cases hx; exact hge)))
        go_cut [3] (fun s3 wc => ∃ m, s3 = .map (some m) ∧ PMap w.heap.size ge wc m (withP (L.take k)) ∧ Below w3.heap.size w3 wc)
        case first =>
          rcases HPAR.out with ⟨h, h0⟩ | ⟨m, kv, h, hm, _, hM, hk2, ho⟩
          · simp only [Value.map.injEq] at h
            subst h
            go_wp2_with (first | ((with_reducible show wpList _ _ _ (Oper.mk _ (Op.makeMap 45 _) _ _ _ _ :: _) _ _); refine wpList_makeMapB KS rfl 45 rfl ?_; intro gm w4 hgm hM4 hgr4) | fail)
            go_meet
            exact ⟨gm, rfl, by rw [h0]; exact PMap.fresh (Nat.le_trans (Nat.le_trans hbr.size hb3.size) hgm) hM4, grownBelow hgr4⟩
          · simp only [Value.map.injEq] at h
            subst h
            go_wp2
            go_meet
            exact ⟨m, rfl, ⟨kv, hm, hM.all hb3, hk2, fun q hq => ⟨own_all (ho q hq) hb3, own_lt (ho q hq) hge⟩⟩, Below.refl _ _⟩
        case rest =>
          obtain ⟨m, rfl, hPM, hbc⟩ := hcut
          have hBc : Blk wc ge (pc p) 49 := hB3.all hbc
          have hbw : Below w.heap.size w wc := (hbr.trans (hb3.mono hbr.size)).trans (hbc.mono (Nat.le_trans hbr.size hb3.size))
          have hgeB : w.heap.size ≤ ge := Nat.le_trans hbr.size hge
          have hWl : (withP (L.take k)).length ≤ 65536 := by
            have h1 : (withP (L.take k)).length ≤ (L.take k).length := List.length_filter_le _ _
            rw [List.length_take] at h1
            omega
          clear hBe hBe3 hgr2 hgr3 hb3 hB3 hra HPAR hbc c1 hq hn0 hbr hge
          go_wp2
          refine wp_region_ho (fun w' => Blk w' ge (pc p) 49) treeP (by kernel_rfl) (by kernel_rfl) (by kernel_rfl) rfl (by kernel_rfl) (fun _ _ d _ _ h => by cases d <;> exact h) (hBc.drew 1) ?_
          simp only [pickT, treeP, List.getD_cons_succ, List.getD_cons_zero]
          refine ho_mv _ (.map (some m)) rfl rfl rfl ?_
          go_frame
          refine ho_take (.pointer (some ⟨ge, 0, none⟩)) rfl (fun w' _ => exec_lfld0 _ rfl ge 0 rfl) ?_
          go_frame
          refine ho_take (.string p.1) rfl (fun w' hw' => exec_load1B 9 _ rfl ge 0 rfl _ 49 hw' _ Trym.underlying9 rfl _ rfl) ?_
          go_frame
          refine ho_mv _ (.map (some m)) rfl rfl rfl ?_
          go_frame
          refine ho_take (.pointer (some ⟨ge, 0, none⟩)) rfl (fun w' _ => exec_lfld0 _ rfl ge 0 rfl) ?_
          go_frame
          refine ho_take (.string p.1) rfl (fun w' hw' => exec_load1B 9 _ rfl ge 0 rfl _ 49 hw' _ Trym.underlying9 rfl _ rfl) ?_
          go_frame
          refine ho_take (.agg (pc p).toArray) rfl (fun w' hw' => exec_loadB 49 _ rfl ge 0 rfl (pc p) (hw'.range 0 2) _ hfs rfl (by rw [pc_length]; exact Trym.size49)) ?_
          go_frame
          obtain ⟨u, kv, hne, hLK⟩ := hPM.look p.1
          have hnl : (named p.1 (withP (L.take k))).length ≤ 65536 := Nat.le_trans (List.length_filter_le _ _) hWl
          have hmB : w.heap.size ≤ m := by
            obtain ⟨_, h, _⟩ := hPM
            exact h
          obtain ⟨i0, hi, hz0, hz1, hz2⟩ := info_parts Trym.info49
          refine ho_fork rfl ?_ rfl ?_
          · refine wp_val (exec_lookB _ _ rfl m p.1 rfl rfl u (hLK wc.drew (Below.refl _ _).drew).2.1) ?_
            refine ⟨hBc.drew 1, ?_⟩
            go_frame
            refine ho_run rfl (wp_val (exec_buildSliceB 29 49 _ rfl (pc p) rfl Trym.underlying29 [.string ByteArray.empty, .string ByteArray.empty] 2 build49 rfl rfl (by omega) (by omega)) ?_)
            obtain ⟨gb, w4, hBb, hb4, hgbe, hwe⟩ := new_row wc.drew (pc p) 49
            rw [hgbe, hwe]
            clear hgbe hwe
            replace hb4 : Below wc.heap.size wc w4 := (Below.refl _ wc).drew.trans hb4
            have hBg4 : Blk w4 ge (pc p) 49 := hBc.all hb4
            refine ⟨hBg4, ?_⟩
            go_frame
            obtain ⟨ho1, hl1, hc1⟩ := hLK w4 hb4
            refine ho_run rfl (wp_append_own_wide _ _ _ 29 rfl w.heap.size 49 i0 (.agg #[.string ByteArray.empty, .string ByteArray.empty]) 2 32 Trym.underlying29 hi hz0 hz1 hz2 rfl (by omega) u _ _ rfl ho1 ⟨gb, 0, none⟩ 1 1 (pc p) rfl (by rw [pc_length]) (fun j v hv => by rw [Addr.add_lit, Nat.zero_add, hBb.cell]; exact hv) (pc_ones p) (by unfold maxLen; omega) (by omega) (Nat.le_trans hbw.size hb4.size) ?_)
            intro u' w5 hown5 hgr5 _
            have hB5 : Blk w5 ge (pc p) 49 := hBg4.grown hgr5 (fun e => hne e.symm)
            refine ⟨hB5, ?_⟩
            go_frame
            obtain ⟨hM5, hc5⟩ := hc1 w5 u' p rfl hgr5 hown5
            refine ho_run rfl (wp_updateB 45 _ _ _ rfl 9 29 Trym.underlying45 keys9 m rfl kv hM5 p.1 rfl u' rfl ?_)
            intro w6 hM6 hgr6
            refine ⟨hB5.grown hgr6 (blk_not_map hB5 hM5), ?_⟩
            refine ho_done ?_
            have hpar6 := hc5 w6 hM6 hgr6
            have hb5 : Below w.heap.size w w5 := (hbw.trans (hb4.mono hbw.size)).grown hgr5 (Nat.le_trans hbw.size hb4.size) (fun q hq => own_ge ho1 hq)
            have hb6 : Below w.heap.size w w6 := hb5.grown hgr6 hb5.size (fun q hq => by cases hq; exact hmB)
            clear hb5 hgr6 hgr5 hM6 hM5 hc5 hc1 hl1 ho1 hown5 hB5 hBg4 hBb hb4 hLK hPM hBc hbw
            show Exit.inBlock _ _ Exit.normal _ _
            go_frame
            go_wp2
            go_roundw
            case rel => exact ⟨k + 1, by omega, by go_num, by rw [HW.out]; exact hpar6, hb6⟩
            case measure => simp [intOf]; omega
          · refine wp_val (exec_buildSliceB 29 49 _ rfl (pc p) rfl Trym.underlying29 [.string ByteArray.empty, .string ByteArray.empty] 2 build49 rfl rfl (by omega) (by omega)) ?_
            obtain ⟨gb, w4, hBb, hb4, hgbe, hwe⟩ := new_row wc.drew (pc p) 49
            rw [hgbe, hwe]
            clear hgbe hwe
            replace hb4 : Below wc.heap.size wc w4 := (Below.refl _ wc).drew.trans hb4
            have hBg4 : Blk w4 ge (pc p) 49 := hBc.all hb4
            refine ⟨hBg4, ?_⟩
            go_frame
            refine ho_run rfl (wp_val (exec_lookB _ _ rfl m p.1 rfl rfl u (hLK w4 hb4).2.1) ?_)
            refine ⟨hBg4, ?_⟩
            go_frame
            obtain ⟨ho1, hl1, hc1⟩ := hLK w4 hb4
            refine ho_run rfl (wp_append_own_wide _ _ _ 29 rfl w.heap.size 49 i0 (.agg #[.string ByteArray.empty, .string ByteArray.empty]) 2 32 Trym.underlying29 hi hz0 hz1 hz2 rfl (by omega) u _ _ rfl ho1 ⟨gb, 0, none⟩ 1 1 (pc p) rfl (by rw [pc_length]) (fun j v hv => by rw [Addr.add_lit, Nat.zero_add, hBb.cell]; exact hv) (pc_ones p) (by unfold maxLen; omega) (by omega) (Nat.le_trans hbw.size hb4.size) ?_)
            intro u' w5 hown5 hgr5 _
            have hB5 : Blk w5 ge (pc p) 49 := hBg4.grown hgr5 (fun e => hne e.symm)
            refine ⟨hB5, ?_⟩
            go_frame
            obtain ⟨hM5, hc5⟩ := hc1 w5 u' p rfl hgr5 hown5
            refine ho_run rfl (wp_updateB 45 _ _ _ rfl 9 29 Trym.underlying45 keys9 m rfl kv hM5 p.1 rfl u' rfl ?_)
            intro w6 hM6 hgr6
            refine ⟨hB5.grown hgr6 (blk_not_map hB5 hM5), ?_⟩
            refine ho_done ?_
            have hpar6 := hc5 w6 hM6 hgr6
            have hb5 : Below w.heap.size w w5 := (hbw.trans (hb4.mono hbw.size)).grown hgr5 (Nat.le_trans hbw.size hb4.size) (fun q hq => own_ge ho1 hq)
            have hb6 : Below w.heap.size w w6 := hb5.grown hgr6 hb5.size (fun q hq => by cases hq; exact hmB)
            clear hb5 hgr6 hgr5 hM6 hM5 hc5 hc1 hl1 ho1 hown5 hB5 hBg4 hBb hb4 hLK hPM hBc hbw
            show Exit.inBlock _ _ Exit.normal _ _
            go_frame
            go_wp2
            go_roundw
            case rel => exact ⟨k + 1, by omega, by go_num, by rw [HW.out]; exact hpar6, hb6⟩
            case measure => simp [intOf]; omega
    · go_wp2
      go_ret
      obtain rfl : k = L.length := by omega
      rw [List.take_length] at hPar
      exact ⟨_, rfl, hPar, hbr⟩
end Go.Proofs.Qxb6603070aMods.M
