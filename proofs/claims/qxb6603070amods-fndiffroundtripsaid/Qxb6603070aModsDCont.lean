import Derived.Test.Qxb6603070aModsDSrc
import Derived.Deep.DeepCutAuto
namespace Go.Proofs.Qxb6603070aMods.M
open Go.RowKit Go.Proofs.Qxb6603070aMods.L

set_option maxHeartbeats 3200000 in
/-- zzContains. -/
theorem contains_any (a : Option Addr) (c : Nat) (S : List P2) (x : P2) (w : World) (hl : S.length ≤ 262144) (hS : Src w a c S) (hs : Strict S) :
    Calls Trym.prog 24 #[.slice a S.length c, .agg (pc x).toArray] w fun e w' => e = .returned (.bool (inS S x)) ∧ Below w.heap.size w w' := by
  obtain ⟨fs, hfs⟩ := struct43
  obtain ⟨n, hn⟩ : ∃ n, n = S.length := ⟨_, rfl⟩
  have HS : Hid (Src w a c S) := hS
  have HT : Hid (Strict S) := hs
  have HN : Hid (n = S.length) := hn
  rw [← hn] at hl ⊢
  clear hS hs hn
  go_enter Trym.func24, Trym.ntmps24
  go_wp2_with (first | ((with_reducible show wpList _ _ _ (Oper.mk _ (Op.box 43 _) _ _ _ _ :: _) _ _); refine wpList_boxB rfl 43 _ rfl _ (pc x) rfl rfl ?_; intro g1 w1 hg1 hB1 hgr1) | fail)
  have hb1 := grownBelow hgr1
  go_loopw [5, 6] (fun s5 s6 wr => ∃ lo hi : Nat, s5 = .int .i64 lo ∧ s6 = .int .i64 hi ∧ lo ≤ hi ∧ hi ≤ n ∧ Lower S x lo ∧ Upper S x hi ∧ Below w1.heap.size w1 wr)
    (fun s5 s6 _ => (intOf s6).toNat - (intOf s5).toNat)
  case atStart => exact ⟨0, n, rfl, rfl, Nat.zero_le _, Nat.le_refl _, Lower.zero S x, by rw [HN.out]; exact Upper.all S x, Below.refl _ _⟩
  case round =>
    obtain ⟨lo, hi, rfl, rfl, hlh, hhn, hLo, hUp, hbr⟩ := hrel
    have HLO : Hid (Lower S x lo) := hLo
    have HUP : Hid (Upper S x hi) := hUp
    clear hLo hUp
    by_cases hlt : lo < hi
    · obtain ⟨mid, hmid⟩ : ∃ mid, mid = lo + (hi - lo) / 2 := ⟨_, rfl⟩
      have hm1 : lo ≤ mid := by omega
      have hm2 : mid < hi := by omega
      have HMID : Hid (mid = lo + (hi - lo) / 2) := hmid
      clear hmid
      have hmn : mid < n := by omega
      obtain ⟨q, hq⟩ : ∃ q, S[mid]? = some q := ⟨_, List.getElem?_eq_getElem (by rw [← HN.out]; exact hmn)⟩
      have HQ : Hid (S[mid]? = some q) := hq
      obtain ⟨g, rfl, hra⟩ := HS.out.at hq
      have HRA : Hid (∀ w', Below w.heap.size w w' → w'.rangeAt g (mid * 2) (pc q)) := hra
      have hbw : Below w.heap.size w wr := hb1.trans (hbr.mono hb1.size)
      clear hq hra
      cases hbf : before false q x with
      | true =>
        have HBF : Hid (before false q x = true) := hbf
        clear hbf
        go_wp2
        rw [show ((lo : Int) + ((hi : Int) - (lo : Int)) / 2) = (mid : Int) from by have := HMID.out; omega]
        refine wp_region_quietC (fun w' => Below wr.heap.size wr w') (by kernel_rfl) (by kernel_rfl) (Below.refl _ _).drew ?_
        refine wpQuiet_mv _ (.slice (some ⟨g, 0, none⟩) n c) rfl rfl rfl ?_
        go_frame
        refine wpQuiet_mv _ (.int .i64 (mid : Int)) rfl rfl rfl ?_
        go_frame
        refine wpQuiet_val rfl (.pointer (some ⟨g, 0 + mid * 2, none⟩)) (fun w' _ => exec_indexB 32 43 _ _ rfl g 0 _ _ rfl .i64 mid rfl hmn Trym.underlying32 2 Trym.size43) ?_
        go_frame
        refine wpQuiet_val rfl (.agg (pc q).toArray) (fun w' hw' => exec_loadB 43 _ rfl g _ rfl (pc q) (by rw [Nat.zero_add]; exact HRA.out w' (hbw.trans (hw'.mono hbw.size))) _ hfs rfl (by rw [pc_length]; exact Trym.size43)) ?_
        go_frame
        refine wpQuiet_val rfl (.agg (pc x).toArray) (fun w' hw' => exec_loadB 43 _ rfl g1 0 rfl (pc x) (((hB1.all hbr).all hw').range 0 2) _ hfs rfl (by rw [pc_length]; exact Trym.size43)) ?_
        go_frame
        refine wpQuiet_callB rfl (.bool true) 33 #[.agg (pc q).toArray, .agg (pc x).toArray, .bool false] (fun w' => by simp [go_sem]) (fun w' hw' => (before_any q x false w').mono (fun e w'' h => ⟨by rw [h.1, HBF.out], hw'.trans (h.2.mono hw'.size)⟩)) ?_
        go_frame
        refine wpQuiet_nil ?_
        intro wq hbq
        have hbq2 : Below w1.heap.size w1 wq := hbr.trans (hbq.mono hbr.size)
        clear hbq hbr hbw
        go_wp2
        go_roundw
        case rel => exact ⟨mid + 1, hi, by go_num, rfl, by omega, hhn, Lower.step HT.out HQ.out HBF.out, HUP.out, hbq2⟩
        case measure => simp [intOf]; omega
      | false =>
        have HBF : Hid (before false q x = false) := hbf
        clear hbf
        go_wp2
        rw [show ((lo : Int) + ((hi : Int) - (lo : Int)) / 2) = (mid : Int) from by have := HMID.out; omega]
        refine wp_region_quietC (fun w' => Below wr.heap.size wr w') (by kernel_rfl) (by kernel_rfl) (Below.refl _ _).drew ?_
        refine wpQuiet_mv _ (.slice (some ⟨g, 0, none⟩) n c) rfl rfl rfl ?_
        go_frame
        refine wpQuiet_mv _ (.int .i64 (mid : Int)) rfl rfl rfl ?_
        go_frame
        refine wpQuiet_val rfl (.pointer (some ⟨g, 0 + mid * 2, none⟩)) (fun w' _ => exec_indexB 32 43 _ _ rfl g 0 _ _ rfl .i64 mid rfl hmn Trym.underlying32 2 Trym.size43) ?_
        go_frame
        refine wpQuiet_val rfl (.agg (pc q).toArray) (fun w' hw' => exec_loadB 43 _ rfl g _ rfl (pc q) (by rw [Nat.zero_add]; exact HRA.out w' (hbw.trans (hw'.mono hbw.size))) _ hfs rfl (by rw [pc_length]; exact Trym.size43)) ?_
        go_frame
        refine wpQuiet_val rfl (.agg (pc x).toArray) (fun w' hw' => exec_loadB 43 _ rfl g1 0 rfl (pc x) (((hB1.all hbr).all hw').range 0 2) _ hfs rfl (by rw [pc_length]; exact Trym.size43)) ?_
        go_frame
        refine wpQuiet_callB rfl (.bool false) 33 #[.agg (pc q).toArray, .agg (pc x).toArray, .bool false] (fun w' => by simp [go_sem]) (fun w' hw' => (before_any q x false w').mono (fun e w'' h => ⟨by rw [h.1, HBF.out], hw'.trans (h.2.mono hw'.size)⟩)) ?_
        go_frame
        refine wpQuiet_nil ?_
        intro wq hbq
        have hbq2 : Below w1.heap.size w1 wq := hbr.trans (hbq.mono hbr.size)
        clear hbq hbr hbw
        go_wp2
        go_roundw
        case rel => exact ⟨lo, mid, rfl, rfl, hm1, by omega, HLO.out, Upper.step HT.out HQ.out HBF.out, hbq2⟩
        case measure => simp [intOf]; omega
    · obtain rfl : lo = hi := by omega
      have hbw : Below w.heap.size w wr := hb1.trans (hbr.mono hb1.size)
      by_cases hln : lo < n
      · obtain ⟨q, hq⟩ : ∃ q, S[lo]? = some q := ⟨_, List.getElem?_eq_getElem (by rw [← HN.out]; exact hln)⟩
        have HF : Hid (inS S x = decide (q = x)) := found HLO.out HUP.out hq HT.out
        obtain ⟨g, rfl, hra⟩ := HS.out.at hq
        have HRA : Hid (∀ w', Below w.heap.size w w' → w'.rangeAt g (lo * 2) (pc q)) := hra
        clear hq hra
        go_wp2
        refine wp_region_quiet_lit (by kernel_rfl) (by kernel_rfl) ?_
        repeat (go_big_quiet_step (fail))
        refine wpQuiet_val rfl (.agg (pc q).toArray) (fun w' hw' => exec_loadB 43 _ rfl g (lo * 2) rfl (pc q) (HRA.out w' (hbw.trans ((lit_below hw').mono hbw.size))) _ hfs rfl (by rw [pc_length]; exact Trym.size43)) ?_
        go_frame
        refine wpQuiet_val rfl (.agg (pc x).toArray) (fun w' hw' => exec_loadB 43 _ rfl g1 0 rfl (pc x) (((hB1.all hbr).all (lit_below hw')).range 0 2) _ hfs rfl (by rw [pc_length]; exact Trym.size43)) ?_
        go_frame
        refine wpQuiet_val rfl (.bool (decide (q = x))) (fun w' _ => exec_eql43 _ _ 43 rfl q x rfl rfl) ?_
        go_frame
        repeat (go_big_quiet_step (fail))
        refine wpQuiet_nil ?_
        intro w2 hw2
        have hb2 := lit_below hw2
        clear hw2
        go_wp2
        go_ret
        exact ⟨by rw [HF.out]; rfl, hbw.trans (hb2.mono hbw.size)⟩
      · have HF : Hid (inS S x = false) := notFound HLO.out (by rw [← HN.out]; omega)
        obtain rfl : lo = n := by omega
        clear hln
        go_wp2
        go_quiet (fail)
        go_wp2
        go_ret
        exact ⟨by rw [HF.out]; rfl, hbw.trans ((drewN_below wr nq).mono hbw.size)⟩
end Go.Proofs.Qxb6603070aMods.M
