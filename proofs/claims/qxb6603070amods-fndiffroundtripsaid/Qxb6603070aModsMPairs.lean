import Derived.Test.Qxb6603070aModsMLocs
namespace Go.Proofs.Qxb6603070aMods.M
open Go.RowKit Go.Proofs.Qxb6603070aMods.L

def ordP : List (Nat × Bool) := [(0, false), (1, false), (2, false), (3, false), (4, false), (5, false), (6, false), (7, false), (8, false), (9, false), (10, false), (11, false), (12, true)]

set_option maxHeartbeats 3200000 in
/-- zzPairsOf. -/
theorem pairs_any (a a' : Option Addr) (ss ts : List ByteArray) (w : World) (hl : ss.length ≤ 65536) (hst : ts.length = ss.length) (hS : Strs w a ss) (hT : Strs w a' ts) :
    Calls Trym.prog 16 #[.slice a ss.length ss.length, .slice a' ts.length ts.length] w fun e w' => ∃ al, e = .returned (.slice al ss.length ss.length) ∧ Prs 43 w' al (ss.zip ts) ∧ Below w.heap.size w w' := by
  have HS : Hid (Strs w a ss) := hS
  have HT : Hid (Strs w a' ts) := hT
  have HST : Hid (ts.length = ss.length) := hst
  have hzl : (ss.zip ts).length = ss.length := by simp; omega
  rw [hst]
  clear hS hT hst
  go_enter Trym.func16, Trym.ntmps16
  go_wp2_with (first | (at_make; refine wpList_makeB rfl _ _ 32 rfl 43 (.agg #[.string ByteArray.empty, .string ByteArray.empty]) [.string ByteArray.empty, .string ByteArray.empty] rfl 2 32 rfl Trym.underlying32 Trym.info43 _ _ _ _ ss.length rfl rfl rfl rfl (by omega) (by unfold maxLen; omega) ?_; intro gd w1 hgd hBd hgr1) | fail)
  replace hBd : Blk w1 gd (flatP (partP (ss.zip ts) 0)) 43 := by rw [partP_zero, hzl, ← flat_rep]; first | exact hBd | simpa using hBd
  have hb1 := grownBelow hgr1
  go_loopw [6] (fun i wr => ∃ k : Nat, k ≤ ss.length ∧ i = .int .i64 k ∧ Blk wr gd (flatP (partP (ss.zip ts) k)) 43 ∧ Below w.heap.size w wr)
    (fun i _ => ss.length - (intOf i).toNat)
  case atStart => exact ⟨0, Nat.zero_le _, rfl, hBd, hb1⟩
  case round =>
    obtain ⟨k, hk, rfl, hBr, hbr⟩ := hrel
    clear hBd hgr1 hb1
    by_cases hlt : k < ss.length
    · obtain ⟨x, hx⟩ : ∃ x, ss[k]? = some x := ⟨_, List.getElem?_eq_getElem hlt⟩
      obtain ⟨y, hy⟩ : ∃ y, ts[k]? = some y := ⟨_, List.getElem?_eq_getElem (by rw [HST.out]; exact hlt)⟩
      rcases HT.out with ⟨_, h0⟩ | ⟨g', rfl, hB'⟩
      · rw [h0] at hy; simp at hy
      rcases HS.out with ⟨_, h0⟩ | ⟨g, rfl, hB⟩
      · rw [h0] at hx; simp at hx
      have HB : Hid (Blk w g (ss.map Value.string) 9) := hB
      have HZ : Hid ((ss.zip ts)[k]? = some (x, y)) := zip_get hx hy
      have HX : Hid ((ss.map Value.string)[k]? = some (.string x)) := by
        show _ = _
        rw [List.getElem?_map, hx]; rfl
      have HY : Hid ((ts.map Value.string)[k]? = some (.string y)) := by
        show _ = _
        rw [List.getElem?_map, hy]; rfl
      have HB' : Hid (Blk w g' (ts.map Value.string) 9) := hB'
      clear hx hy hB' hB
      go_wp2
      refine wp_region_walk (fun w' => Below w.heap.size w w') ordP (by kernel_rfl) (by kernel_rfl) (by kernel_rfl) rfl (by kernel_rfl) (fun _ _ d _ _ h => by cases d <;> exact h) hbr.drew ?_
      simp only [picked, ordP, List.map_cons, List.map_nil, List.getD_cons_succ, List.getD_cons_zero]
      refine held_move _ _ rfl rfl rfl ?_
      go_frame
      refine held_move _ _ rfl rfl rfl ?_
      go_frame
      refine held_move _ _ rfl rfl rfl ?_
      go_frame
      refine held_move _ _ rfl rfl rfl ?_
      go_frame
      refine held_take (.pointer (some ⟨g, 0 + k * 1, none⟩)) rfl (fun w' hw' => exec_indexB 22 9 _ _ rfl g 0 _ _ rfl .i64 k rfl hlt Trym.underlying22 1 Trym.size9) ?_
      go_frame
      refine held_take (.string x) rfl (fun w' hw' => exec_load1B 9 _ rfl g _ rfl _ 9 (HB.out.all hw') _ Trym.underlying9 rfl _ (by rw [Nat.zero_add, Nat.mul_one]; exact HX.out)) ?_
      go_frame
      refine held_move _ _ rfl rfl rfl ?_
      go_frame
      refine held_move _ _ rfl rfl rfl ?_
      go_frame
      refine held_take (.pointer (some ⟨g', 0 + k * 1, none⟩)) rfl (fun w' hw' => exec_indexB 22 9 _ _ rfl g' 0 _ _ rfl .i64 k rfl hlt Trym.underlying22 1 Trym.size9) ?_
      go_frame
      refine held_take (.string y) rfl (fun w' hw' => exec_load1B 9 _ rfl g' _ rfl _ 9 (HB'.out.all hw') _ Trym.underlying9 rfl _ (by rw [Nat.zero_add, Nat.mul_one]; exact HY.out)) ?_
      go_frame
      refine held_take (.agg (pc (x, y)).toArray) rfl (fun w' hw' => exec_of_build 43 _ rfl (by simp [Act.eval]) (run_pair x y w')) ?_
      go_frame
      refine held_take (.pointer (some ⟨gd, 0 + k * 2, none⟩)) rfl (fun w' hw' => exec_indexB 32 43 _ _ rfl gd 0 _ _ rfl .i64 k rfl hlt Trym.underlying32 2 Trym.size43) ?_
      go_frame
      have hBq3 : Blk wr.drew gd (flatP (partP (ss.zip ts) k)) 43 := hBr
      have hpl := partP_length (ss.zip ts) k (by omega)
      refine held_run rfl (wp_storeB 43 _ _ rfl gd (0 + k * 2) rfl (pc (x, y)) rfl _ 43 hBq3 Trym.size43 (by rw [flatP_length, hpl, pc_length]; omega) (pc_ones _) ?_)
      intro w4 hBq4 hg4
      rw [Nat.zero_add, flatP_put _ k _ (by omega), partP_step _ k _ HZ.out] at hBq4
      have hb4 : Below w.heap.size w w4 := hbr.drew.grown hg4 hbr.drew.size (fun q hq => by cases hq; exact hgd)
      refine ⟨hb4, ?_⟩
      show Exit.inBlock _ _ Exit.normal _ _
      go_frame
      clear hBq3 hg4 hBr hbr
      go_wp2
      go_roundw
      case rel => exact ⟨k + 1, by omega, by go_num, hBq4, hb4⟩
      case measure => simp [intOf]; omega
    · obtain rfl : k = ss.length := by omega
      have e := partP_all (ss.zip ts)
      rw [hzl] at e
      rw [e] at hBr
      clear e
      go_wp2
      go_ret
      exact ⟨_, rfl, .inr ⟨gd, rfl, hBr⟩, hbr⟩
end Go.Proofs.Qxb6603070aMods.M
