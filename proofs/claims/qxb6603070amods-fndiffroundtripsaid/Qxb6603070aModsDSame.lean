import Derived.Test.Qxb6603070aModsDSrc
namespace Go.Proofs.Qxb6603070aMods.M
open Go.RowKit Go.Proofs.Qxb6603070aMods.L

set_option maxHeartbeats 3200000 in
/-- zzSamePairs, where the two rows hold the same. -/
theorem samePairs_any (a b : Option Addr) (c d : Nat) (L : List P2) (w : World) (hl : L.length ≤ 262144) (hS : Src w a c L) (hT : Src w b d L) :
    Calls Trym.prog 17 #[.slice a L.length c, .slice b L.length d] w fun e w' => e = .returned (.bool true) ∧ Below w.heap.size w w' := by
  obtain ⟨fs, hfs⟩ := struct43
  obtain ⟨n, hn⟩ : ∃ n, n = L.length := ⟨_, rfl⟩
  have HS : Hid (Src w a c L) := hS
  have HT : Hid (Src w b d L) := hT
  have HN : Hid (n = L.length) := hn
  rw [← hn] at hl ⊢
  clear hS hT hn
  go_enter Trym.func17, Trym.ntmps17
  go_wp2
  go_loopw [5] (fun s5 wr => ∃ k : Nat, k ≤ n ∧ s5 = .int .i64 k ∧ Below w.heap.size w wr)
    (fun s5 _ => n - (intOf s5).toNat)
  case atStart => exact ⟨0, Nat.zero_le _, rfl, Below.refl _ _⟩
  case round =>
    obtain ⟨k, hk, rfl, hbr⟩ := hrel
    by_cases hlt : k < n
    · obtain ⟨p, hp⟩ : ∃ p, L[k]? = some p := ⟨_, List.getElem?_eq_getElem (by rw [← HN.out]; exact hlt)⟩
      obtain ⟨g, rfl, hra⟩ := HS.out.at hp
      obtain ⟨g', rfl, hra'⟩ := HT.out.at hp
      have HRA : Hid (∀ w', Below w.heap.size w w' → w'.rangeAt g (k * 2) (pc p)) := hra
      have HRB : Hid (∀ w', Below w.heap.size w w' → w'.rangeAt g' (k * 2) (pc p)) := hra'
      clear hp hra hra'
      go_wp2
      refine wp_region_quiet_lit (by kernel_rfl) (by kernel_rfl) ?_
      repeat (go_big_quiet_step (fail))
      refine wpQuiet_val rfl (.agg (pc p).toArray) (fun w' hw' => exec_loadB 43 _ rfl g (k * 2) rfl (pc p) (HRA.out w' (hbr.trans ((lit_below hw').mono hbr.size))) _ hfs rfl (by rw [pc_length]; exact Trym.size43)) ?_
      go_frame
      repeat (go_big_quiet_step (fail))
      refine wpQuiet_val rfl (.agg (pc p).toArray) (fun w' hw' => exec_loadB 43 _ rfl g' (k * 2) rfl (pc p) (HRB.out w' (hbr.trans ((lit_below hw').mono hbr.size))) _ hfs rfl (by rw [pc_length]; exact Trym.size43)) ?_
      go_frame
      refine wpQuiet_val rfl (.bool false) (fun w' _ => (exec_neq43 _ _ 43 rfl p p rfl rfl).trans (by rw [decide_eq_true (rfl : p = p)]; rfl)) ?_
      go_frame
      refine wpQuiet_nil ?_
      intro wz hwz
      have hbz : Below w.heap.size w wz := hbr.trans ((lit_below hwz).mono hbr.size)
      clear hwz hbr
      go_wp2
      go_roundw
      case rel => exact ⟨k + 1, by omega, by go_num, hbz⟩
      case measure => simp [intOf]; omega
    · go_wp2
      go_ret
      exact ⟨rfl, hbr⟩
end Go.Proofs.Qxb6603070aMods.M
