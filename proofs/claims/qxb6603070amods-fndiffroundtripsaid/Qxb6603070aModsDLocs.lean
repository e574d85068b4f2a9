import Derived.Test.Qxb6603070aModsDSrc
namespace Go.Proofs.Qxb6603070aMods.M
open Go.RowKit Go.Proofs.Qxb6603070aMods.L

def ordD : List (Nat × Bool) := [(0, false), (1, false), (2, false), (3, false), (4, false), (5, false), (7, false), (8, false), (9, false), (10, false), (6, true), (11, true), (12, false), (13, false), (14, true)]

set_option maxHeartbeats 3200000 in
/-- zzPairsOfLocs. -/
theorem pairsOfLocs_any (a : Option Addr) (c : Nat) (L : List P2) (w : World) (hl : L.length ≤ 262144) (hS : Src w a c L) :
    Calls Trym.prog 19 #[.slice a L.length c] w fun e w' => ∃ al, e = .returned (.slice al L.length L.length) ∧ Prs 43 w' al L ∧ Below w.heap.size w w' := by
  obtain ⟨fs, hfs⟩ := struct49
  obtain ⟨n, hn⟩ : ∃ n, n = L.length := ⟨_, rfl⟩
  have HS : Hid (Src w a c L) := hS
  have HN : Hid (n = L.length) := hn
  rw [← hn] at hl ⊢
  clear hS hn
  go_enter Trym.func19, Trym.ntmps19
  go_wp2_with (first | (at_make; refine wpList_makeB rfl _ _ 32 rfl 43 (.agg #[.string ByteArray.empty, .string ByteArray.empty]) [.string ByteArray.empty, .string ByteArray.empty] rfl 2 32 rfl Trym.underlying32 Trym.info43 _ _ _ _ n rfl rfl rfl rfl (by omega) (by unfold maxLen; omega) ?_; intro gd w1 hgd hBd hgr1) | fail)
  replace hBd : Blk w1 gd (flatP (partP L 0)) 43 := by rw [partP_zero, ← HN.out, ← flat_rep]; first | exact hBd | simpa using hBd
  have hb1 := grownBelow hgr1
  go_loopw [4] (fun i wr => ∃ k : Nat, k ≤ n ∧ i = .int .i64 k ∧ Blk wr gd (flatP (partP L k)) 43 ∧ Below w.heap.size w wr)
    (fun i _ => n - (intOf i).toNat)
  case atStart => exact ⟨0, Nat.zero_le _, rfl, hBd, hb1⟩
  case round =>
    obtain ⟨k, hk, rfl, hBr, hbr⟩ := hrel
    clear hBd hgr1 hb1
    by_cases hlt : k < n
    · obtain ⟨p, hp⟩ : ∃ p, L[k]? = some p := ⟨_, List.getElem?_eq_getElem (by rw [← HN.out]; exact hlt)⟩
      have HP : Hid (L[k]? = some p) := hp
      obtain ⟨g, rfl, hra⟩ := HS.out.at hp
      have HRA : Hid (∀ w', Below w.heap.size w w' → w'.rangeAt g (k * 2) (pc p)) := hra
      clear hp hra
      go_wp2
      refine wp_region_walk (fun w' => Below w.heap.size w w') ordD (by kernel_rfl) (by kernel_rfl) (by kernel_rfl) rfl (by kernel_rfl) (fun _ _ d _ _ h => by cases d <;> exact h) hbr.drew ?_
      simp only [picked, ordD, List.map_cons, List.map_nil, List.getD_cons_succ, List.getD_cons_zero]
      refine held_move _ (.slice (some ⟨gd, 0, none⟩) n n) rfl rfl rfl ?_
      go_frame
      refine held_move _ (.int .i64 (k : Int)) rfl rfl rfl ?_
      go_frame
      refine held_move _ (.slice (some ⟨g, 0, none⟩) n c) rfl rfl rfl ?_
      go_frame
      refine held_move _ (.int .i64 (k : Int)) rfl rfl rfl ?_
      go_frame
      refine held_take (.pointer (some ⟨g, 0 + k * 2, none⟩)) rfl (fun w' hw' => exec_indexB 29 49 _ _ rfl g 0 _ _ rfl .i64 k rfl hlt Trym.underlying29 2 Trym.size49) ?_
      go_frame
      refine held_take (.agg (pc p).toArray) rfl (fun w' hw' => exec_loadB 49 _ rfl g _ rfl (pc p) (by rw [Nat.zero_add]; exact HRA.out w' hw') _ hfs rfl (by rw [pc_length]; exact Trym.size49)) ?_
      go_frame
      refine held_move _ (.slice (some ⟨g, 0, none⟩) n c) rfl rfl rfl ?_
      go_frame
      refine held_move _ (.int .i64 (k : Int)) rfl rfl rfl ?_
      go_frame
      refine held_take (.pointer (some ⟨g, 0 + k * 2, none⟩)) rfl (fun w' hw' => exec_indexB 29 49 _ _ rfl g 0 _ _ rfl .i64 k rfl hlt Trym.underlying29 2 Trym.size49) ?_
      go_frame
      refine held_take (.agg (pc p).toArray) rfl (fun w' hw' => exec_loadB 49 _ rfl g _ rfl (pc p) (by rw [Nat.zero_add]; exact HRA.out w' hw') _ hfs rfl (by rw [pc_length]; exact Trym.size49)) ?_
      go_frame
      refine held_call 35 #[.agg (pc p).toArray] rfl (by simp [go_sem]) ?_
      refine (locName_any p wr.drew).mono ?_
      rintro e w3 ⟨rfl, hb3⟩
      have hbw3 : Below w.heap.size w w3 := hbr.drew.trans (hb3.mono hbr.drew.size)
      refine ⟨_, rfl, hbw3, ?_⟩
      go_frame
      refine held_call 36 #[.agg (pc p).toArray] rfl (by simp [go_sem]) ?_
      refine (locParams_any p w3).mono ?_
      rintro e w4 ⟨rfl, hb4⟩
      have hbw4 : Below w.heap.size w w4 := hbw3.trans (hb4.mono hbw3.size)
      refine ⟨_, rfl, hbw4, ?_⟩
      go_frame
      refine held_take (.agg (pc p).toArray) rfl (fun w' hw' => exec_of_build 43 _ rfl (by simp [Act.eval]) (run_pair p.1 p.2 _)) ?_
      go_frame
      refine held_take (.pointer (some ⟨gd, 0 + k * 2, none⟩)) rfl (fun w' hw' => exec_indexB 32 43 _ _ rfl gd 0 _ _ rfl .i64 k rfl hlt Trym.underlying32 2 Trym.size43) ?_
      go_frame
      have hBq3 : Blk w4 gd (flatP (partP L k)) 43 := Blk.all (Blk.all (w := wr.drew) hBr hb3) hb4
      have hpl := partP_length L k (by rw [← HN.out]; omega)
      refine held_run rfl (wp_storeB 43 _ _ rfl gd (0 + k * 2) rfl (pc p) rfl _ 43 hBq3 Trym.size43 (by rw [flatP_length, hpl, pc_length, ← HN.out]; omega) (pc_ones _) ?_)
      intro w5 hBq4 hg4
      rw [Nat.zero_add, flatP_put _ k _ (by rw [hpl, ← HN.out]; omega), partP_step _ k _ HP.out] at hBq4
      have hb5 : Below w.heap.size w w5 := hbw4.grown hg4 hbw4.size (fun q hq => by cases hq; exact hgd)
      refine ⟨hb5, ?_⟩
      show Exit.inBlock _ _ Exit.normal _ _
      go_frame
      clear hBq3 hg4 hb3 hb4 hbw3 hbw4 hBr hbr hpl
      go_wp2
      go_roundw
      case rel => exact ⟨k + 1, by omega, by go_num, hBq4, hb5⟩
      case measure => simp [intOf]; omega
    · obtain rfl : k = n := by omega
      have e := partP_all L
      rw [← HN.out] at e
      rw [e] at hBr
      clear e
      go_wp2
      go_ret
      exact ⟨_, rfl, .inr ⟨gd, rfl, hBr⟩, hbr⟩
end Go.Proofs.Qxb6603070aMods.M
