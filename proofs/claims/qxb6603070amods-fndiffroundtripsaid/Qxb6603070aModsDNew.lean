import Derived.Test.Qxb6603070aModsDKeys
namespace Go.Proofs.Qxb6603070aMods.M
open Go.RowKit Go.Proofs.Qxb6603070aMods.L

theorem run_empty (w : World) : (Instr.build 54 #[]).run Trym.prog w = .ok (.agg #[]) w := by kernel_rfl

set_option maxHeartbeats 3200000 in
/-- newLocatorSet. -/
theorem newSet_any (a : Option Addr) (c : Nat) (L : List P2) (w : World) (hl : L.length ≤ 262144) (hS : Src w a c L) :
    Calls Trym.prog 30 #[.slice a L.length c] w fun e w' => ∃ m, e = .returned (.map (some m)) ∧ SetM w' m L ∧ Below w.heap.size w w' := by
  obtain ⟨fs, hfs⟩ := struct49
  obtain ⟨n, hn⟩ : ∃ n, n = L.length := ⟨_, rfl⟩
  have HS : Hid (Src w a c L) := hS
  have HN : Hid (n = L.length) := hn
  rw [← hn] at hl ⊢
  clear hS hn
  go_enter Trym.func30, Trym.ntmps30
  go_wp2_with (first | ((with_reducible show wpList _ _ _ (Oper.mk _ (Op.makeMap 27 _) _ _ _ _ :: _) _ _); refine wpList_makeMapH KP rfl 27 _ rfl 49 54 und27 .i64 _ rfl ?_; intro m w1 hm hM1 hgr1) | fail)
  have hb1 := grownBelow hgr1
  go_loopw [11] (fun i wr => ∃ k : Nat, k ≤ n ∧ i = .int .i64 k ∧ SetM wr m (L.take k) ∧ Below w.heap.size w wr)
    (fun i _ => n - (intOf i).toNat)
  case atStart => exact ⟨0, Nat.zero_le _, rfl, SetM.fresh hM1, hb1⟩
  case round =>
    obtain ⟨k, hk, rfl, hSet, hbr⟩ := hrel
    clear hM1 hgr1 hb1
    by_cases hlt : k < n
    · obtain ⟨p, hp⟩ : ∃ p, L[k]? = some p := ⟨_, List.getElem?_eq_getElem (by rw [← HN.out]; exact hlt)⟩
      have HP : Hid (L[k]? = some p) := hp
      obtain ⟨g, rfl, hra⟩ := HS.out.at hp
      have hra0 : wr.rangeAt g (k * 2) (pc p) := hra wr hbr
      have HSET : Hid (SetM wr m (L.take k)) := hSet
      clear hp hra hSet
      go_wp2_with (first
        | ((with_reducible show wpList _ _ _ (Oper.mk (some 14) (Op.load 49 _) _ _ _ _ :: _) _ _); refine wpList_val rfl (exec_loadB 49 _ rfl g (k * 2) rfl (pc p) hra0 _ hfs rfl (by rw [pc_length]; exact Trym.size49)) ?_)
        | ((with_reducible show wpList _ _ _ (Oper.mk _ (Op.alloc 49) _ _ _ _ :: _) _ _); refine wpList_allocB rfl 49 rfl _ [.string ByteArray.empty, .string ByteArray.empty] zero49 rfl ?_; intro ge w2 hge hBe hgr2)
        | ((with_reducible show wpList _ _ _ (Oper.mk _ (Op.store 49 _ _) _ _ _ _ :: _) _ _); refine wpList_storeB rfl 49 _ _ rfl ge 0 rfl (pc p) rfl _ 49 hBe Trym.size49 (by simp [pc]) (pc_ones _) ?_; intro w3 hBe3 hgr3; have hB3 : Blk w3 ge (pc p) 49 := hBe3; have hb3 : Below wr.heap.size wr w3 := (grownBelow hgr2).grown hgr3 hgr2.size (fun x hx => by cases hx; exact hge))
        | ((with_reducible show wpList _ _ _ (Oper.mk (some 16) (Op.load 49 _) _ _ _ _ :: _) _ _); refine wpList_val rfl (exec_loadB 49 _ rfl ge 0 rfl (pc p) (hB3.range 0 2) _ hfs rfl (by rw [pc_length]; exact Trym.size49)) ?_)
        | ((with_reducible show wpList _ _ _ (Oper.mk _ (Op.build 54 _) _ _ _ _ :: _) _ _); refine wpList_val rfl (exec_of_build 54 _ rfl (by simp) (run_empty _)) ?_; obtain ⟨kv, hMp, hput⟩ := (HSET.out.all hb3).put p)
        | ((with_reducible show wpList _ _ _ (Oper.mk _ (Op.mapUpdate 27 _ _ _) _ _ _ _ :: _) _ _); refine wpList_plain rfl (fun K hK => wp_updateB 27 _ _ _ rfl 49 54 und27 keysP m rfl kv hMp p rfl (.agg #[]) rfl ?_); intro w4 hM4 hgr4; refine hK _ _ ?_; have hset4 := hput w4 hM4))
      have hbw3 : Below w.heap.size w w3 := hbr.trans (hb3.mono hbr.size)
      have hb4 : Below w.heap.size w w4 := hbw3.grown hgr4 hbw3.size (fun q hq => by cases hq; exact hm)
      go_roundw
      case rel => exact ⟨k + 1, by omega, by go_num, by rw [take_more HP.out]; exact hset4, hb4⟩
      case measure => simp [intOf]; omega
    · obtain rfl : k = n := by omega
      rw [show L.take k = L from List.take_of_length_le (by rw [HN.out]; exact Nat.le_refl _)] at hSet
      go_wp2
      go_ret
      exact ⟨m, rfl, hSet, hbr⟩
end Go.Proofs.Qxb6603070aMods.M
