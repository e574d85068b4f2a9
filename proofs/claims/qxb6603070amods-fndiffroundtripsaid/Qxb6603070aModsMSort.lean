import Derived.Test.Qxb6603070aModsMRel
import Derived.Deep.DeepCutAuto
namespace Go.Proofs.Qxb6603070aMods.M
open Go.RowKit Go.Proofs.Qxb6603070aMods.L

/-- A row of pairs to read: nil, or what stands at the head of a block. -/
def Src (w : World) (a : Option Addr) (c : Nat) (L : List P2) : Prop := (a = none ∧ L = [] ∧ c = 0) ∨ ∃ g, a = some ⟨g, 0, none⟩ ∧ ∀ w', Below w.heap.size w w' → w'.rangeAt g 0 (flatP L)
theorem Src.all {w w' : World} {a : Option Addr} {c : Nat} {L : List P2} (h : Src w a c L) (b : Below w.heap.size w w') : Src w' a c L := by
  rcases h with h | ⟨g, ha, h⟩
  · exact .inl h
  · exact .inr ⟨g, ha, fun w2 b2 => h w2 (b.trans (b2.mono b.size))⟩
theorem Src.of {t : TypeId} {w : World} {a : Option Addr} {L : List P2} (h : Prs t w a L) : Src w a L.length L := by
  rcases h with ⟨rfl, rfl⟩ | ⟨g, ha, h⟩
  · exact .inl ⟨rfl, rfl, rfl⟩
  · refine .inr ⟨g, ha, fun w' b => ?_⟩
    have := (h.all b).range 0 (flatP L).length
    simpa using this

set_option maxRecDepth 100000 in
set_option maxHeartbeats 16000000 in
/-- zzMergeSort. -/
theorem sort_big (a : Option Addr) (c : Nat) (L : List P2) (nm : Bool) (w : World) (hl : L.length ≤ 262144) (hP : Src w a c L) :
    Calls Trym.prog 18 #[.slice a L.length c, .bool nm] w fun e w' => ∃ g T, e = .returned (.slice (some ⟨g, 0, none⟩) L.length L.length) ∧ Blk w' g (flatP T) 43 ∧ w.heap.size ≤ g ∧ T.length = L.length ∧ Srt (before nm) T ∧ Same (before nm) T L ∧ Below w.heap.size w w' := by
  obtain ⟨n, hn⟩ : ∃ n, n = L.length := ⟨_, rfl⟩
  have H := before_ord nm
  have HP : Hid (Src w a c L) := hP
  have HN : Hid (n = L.length) := hn
  rw [← hn] at hl ⊢
  clear hP hn
  go_enter Trym.func18, Trym.ntmps18
  go_upto_region 3 with (first | (at_make; refine wpList_makeB rfl _ _ 32 rfl 43 (.agg #[.string ByteArray.empty, .string ByteArray.empty]) [.string ByteArray.empty, .string ByteArray.empty] rfl 2 32 rfl Trym.underlying32 Trym.info43 _ _ _ _ n rfl rfl rfl rfl (by omega) (by unfold maxLen; omega) ?_; intro g0 w1 hg0 hB0 hgr1) | fail)
  replace hB0 : Blk w1 g0 (flatP (List.replicate n emp)) 43 := by rw [← flat_rep]; first | exact hB0 | simpa using hB0
  have hb1 := grownBelow hgr1
  go_cut [6] (fun s6 wc => s6 = .slice (some ⟨g0, 0, none⟩) n n ∧ Blk wc g0 (flatP L) 43 ∧ Below w.heap.size w wc)
  case first =>
    rcases HP.out with ⟨rfl, h0, hc0⟩ | ⟨g, rfl, hB⟩
    · have hn0 : n = 0 := by rw [HN.out, h0]; rfl
      subst hn0
      subst hc0
      go_wp2_with (first | ((with_reducible show wpList _ _ _ (Oper.mk _ (Op.call _) _ _ _ _ :: _) _ _); refine wpList_copyNil rfl _ _ 32 32 rfl 43 Trym.underlying32 (by rw [Trym.size43]; rfl) ⟨g0, 0, none⟩ _ _ rfl rfl ?_) | fail)
      go_meet
      exact ⟨rfl, by rw [h0]; exact hB0, hb1⟩
    · go_wp2_with (first | ((with_reducible show wpList _ _ _ (Oper.mk _ (Op.call _) _ _ _ _ :: _) _ _); refine wpList_copyW rfl _ _ 32 32 rfl 43 Trym.underlying32 2 Trym.size43 g0 g n c rfl rfl _ _ 43 hB0 (hB _ hb1) (by rw [flatP_length, HN.out]) (by rw [flatP_length, flatP_length, List.length_replicate, HN.out]) (flatP_ones L) ?_; intro w2 hB2 hgr2) | fail)
      go_meet
      exact ⟨rfl, hB2, hb1.grown hgr2 hb1.size (fun q hq => by cases hq; exact hg0)⟩
  case rest =>
    obtain ⟨rfl, hBs, hbc⟩ := hcut
    clear hB0 hgr1 hb1 HP
    go_wp2_with (first | (at_make; refine wpList_makeB rfl _ _ 32 rfl 43 (.agg #[.string ByteArray.empty, .string ByteArray.empty]) [.string ByteArray.empty, .string ByteArray.empty] rfl 2 32 rfl Trym.underlying32 Trym.info43 _ _ _ _ n rfl rfl rfl rfl (by omega) (by unfold maxLen; omega) ?_; intro g1 w3 hg1 hBd hgr3) | fail)
    replace hBd : Blk w3 g1 (flatP (List.replicate n emp)) 43 := by rw [← flat_rep]; first | exact hBd | simpa using hBd
    have hb3 : Below w.heap.size w w3 := hbc.trans ((grownBelow hgr3).mono hbc.size)
    have hBs3 := hBs.kept hgr3
    have hne : g0 ≠ g1 := by have := hBs.lt; omega
    have hg1' : w.heap.size ≤ g1 := Nat.le_trans hbc.size hg1
    clear hBs hgr3 hbc hg1
    go_loopw [6, 7, 8] (fun s6 s7 s8 wr => ∃ (gs gd : Nat) (T D : List P2) (wd : Nat), s6 = .slice (some ⟨gs, 0, none⟩) n n ∧ s7 = .slice (some ⟨gd, 0, none⟩) n n ∧ s8 = .int .i64 wd ∧ 1 ≤ wd ∧ wd ≤ 2 * n + 1 ∧ gs ≠ gd ∧ w.heap.size ≤ gs ∧ w.heap.size ≤ gd ∧
        Blk wr gs (flatP T) 43 ∧ Blk wr gd (flatP D) 43 ∧ D.length = n ∧ Chunks (before nm) wd L T ∧ Below w.heap.size w wr)
      (fun _ _ s8 _ => n - (intOf s8).toNat)
    case atStart => exact ⟨g0, g1, L, _, 1, rfl, rfl, rfl, Nat.le_refl _, by omega, hne, hg0, hg1', hBs3, hBd, by simp, Chunks.one L, hb3⟩
    case round =>
      obtain ⟨wo, rfl⟩ : ∃ wo : World, wo = wr := ⟨_, rfl⟩
      obtain ⟨gs, gd, T, D, wd, rfl, rfl, rfl, hw1, hw2, hnsd, hgs, hgd, hBT, hBD, hDl, hCh, hbo⟩ := hrel
      clear hBd hb3 hBs3 hne hg0 hg1'
      have hTl : T.length = n := by rw [hCh.1, HN.out]
      have HCH : Hid (Chunks (before nm) wd L T) := hCh
      have HDL : Hid (D.length = n) := hDl
      clear hCh hDl
      by_cases hlt : wd < n
      · go_wp2
        go_loopw [9] (fun s9 wr => ∃ (i lo : Nat) (D : List P2), s9 = .int .i64 lo ∧ lo = i * (2 * wd) ∧ lo ≤ 3 * n ∧ Blk wr gs (flatP T) 43 ∧ Blk wr gd (flatP D) 43 ∧ Pass (before nm) (2 * wd) L D i ∧ Below w.heap.size w wr)
          (fun s9 _ => n - (intOf s9).toNat)
        case atStart => exact ⟨0, 0, D, rfl, by simp, by omega, hBT, hBD, Pass.start _ _ _ (by rw [HDL.out, HN.out]), hbo⟩
        case round =>
          obtain ⟨wp, rfl⟩ : ∃ wp : World, wp = wr := ⟨_, rfl⟩
          obtain ⟨i, lo, D2, rfl, hlo, hlo3, hBTp, hBDp, hPass, hbp⟩ := hrel
          have HLO : Hid (lo = i * (2 * wd)) := hlo
          have HPASS : Hid (Pass (before nm) (2 * wd) L D2 i) := hPass
          have hD2l : D2.length = n := by rw [hPass.1, HN.out]
          clear hBT hBD hbo hlo hPass
          by_cases hlt2 : lo < n
          · obtain ⟨fs, hfs⟩ := struct43
            obtain ⟨P0, hP0⟩ : ∃ P0, P0 = D2.take lo := ⟨_, rfl⟩
            have HP0 : Hid (P0 = D2.take lo) := hP0
            have hP0l : P0.length = lo := by rw [hP0, List.length_take]; omega
            clear hP0
            go_upto_if 41 with fail
            go_cut [10] (fun s10 wy => ∃ mid : Nat, s10 = .int .i64 mid ∧ (mid = lo + wd ∨ (mid = n ∧ n ≤ lo + wd)) ∧ mid ≤ n ∧ wy = wp)
            case first =>
              by_cases h1 : n < lo + wd
              · go_wp2
                go_meet
                exact ⟨n, rfl, .inr ⟨rfl, by omega⟩, Nat.le_refl _, rfl⟩
              · go_wp2
                go_meet
                exact ⟨lo + wd, by go_num, .inl rfl, by omega, rfl⟩
            case rest =>
              obtain ⟨mid, rfl, hmid, hmn, rfl⟩ := hcut
              have HMID : Hid (mid = lo + wd ∨ (mid = n ∧ n ≤ lo + wd)) := hmid
              clear hmid
              go_upto_if 49 with fail
              go_cut [11] (fun s11 wy => ∃ hi : Nat, s11 = .int .i64 hi ∧ (hi = lo + 2 * wd ∨ (hi = n ∧ n ≤ lo + 2 * wd)) ∧ hi ≤ n ∧ wy = wc)
              case first =>
                by_cases h1 : n < lo + 2 * wd
                · go_wp2
                  go_meet
                  exact ⟨n, rfl, .inr ⟨rfl, by omega⟩, Nat.le_refl _, rfl⟩
                · go_wp2
                  go_meet
                  exact ⟨lo + 2 * wd, by go_num, .inl rfl, by omega, rfl⟩
              case rest =>
                obtain ⟨hi, rfl, hhi, hhn, rfl⟩ := hcut
                have HHI : Hid (hi = lo + 2 * wd ∨ (hi = n ∧ n ≤ lo + 2 * wd)) := hhi
                have hlm : lo ≤ mid := by rcases HMID.out with h | h <;> omega
                have hmh : mid ≤ hi := by rcases HMID.out with h | h <;> rcases HHI.out with h' | h' <;> omega
                clear hhi
                go_wp2
                have HR0 := rel_start HCH.out HLO.out hTl hD2l hlt2 HMID.out HHI.out hmn hhn
                obtain ⟨X, hX⟩ : ∃ X, X = chunk T lo wd := ⟨_, rfl⟩
                obtain ⟨Y, hY⟩ : ∃ Y, Y = chunk T (lo + wd) wd := ⟨_, rfl⟩
                have HXX : Hid (X = chunk T lo wd) := hX
                have HYY : Hid (Y = chunk T (lo + wd) wd) := hY
                rw [← hX, ← hY, ← HP0.out] at HR0
                have HR1 : Hid (MRel nm T P0 lo mid hi n X Y lo mid lo [] (D2.drop lo)) := HR0
                clear HR0 hX hY
                go_loopw [12, 13, 14] (fun s12 s13 s14 wr => ∃ (ii jj kk : Nat) (M Q : List P2), s12 = .int .i64 ii ∧ s13 = .int .i64 jj ∧ s14 = .int .i64 kk ∧ MRel nm T P0 lo mid hi n X Y ii jj kk M Q ∧ Blk wr gs (flatP T) 43 ∧ Blk wr gd (flatP (P0 ++ (M ++ Q))) 43 ∧ Below w.heap.size w wr)
                  (fun s12 s13 _ _ => (mid - (intOf s12).toNat) + (hi - (intOf s13).toNat))
                case atStart => exact ⟨lo, mid, lo, [], D2.drop lo, rfl, rfl, rfl, HR1.out, hBTp, by rw [List.nil_append, HP0.out, List.take_append_drop]; exact hBDp, hbp⟩
                case round =>
                  obtain ⟨ii, jj, kk, M, Q, rfl, rfl, rfl, hR, hBTr, hBDr, hbr⟩ := hrel
                  have HR : Hid (MRel nm T P0 lo mid hi n X Y ii jj kk M Q) := hR
                  obtain ⟨hi1, hi2, hj1, hj2, hkk, hMl, _, _⟩ := hR
                  clear hBTp hBDp hbp HR1
                  by_cases hii : ii < mid
                  · by_cases hjj : jj < hi
                    · obtain ⟨x, hx⟩ : ∃ x, T[ii]? = some x := ⟨_, List.getElem?_eq_getElem (by omega)⟩
                      obtain ⟨y, hy⟩ : ∃ y, T[jj]? = some y := ⟨_, List.getElem?_eq_getElem (by omega)⟩
                      have HX : Hid (T[ii]? = some x) := hx
                      have HY : Hid (T[jj]? = some y) := hy
                      have hin : ii < n := by omega
                      have hjn : jj < n := by omega
                      clear hx hy
                      obtain ⟨hkn, q, Q', hQ, hset⟩ := rel_room HR.out hP0l hhn (by omega)
                      subst hQ
                      have HLEN : Hid ((P0 ++ (M ++ q :: Q')).length = n) := HR.out.2.2.2.2.2.2.1
                      have HSET : Hid (∀ x, (P0 ++ (M ++ q :: Q')).set kk x = P0 ++ ((M ++ [x]) ++ Q')) := hset
                      clear hset hkk hMl
                      cases hbf : before nm y x with
                      | true =>
                        have HBF : Hid (before nm y x = true) := hbf
                        clear hbf
                        go_wp2
                        refine wp_region_quietC (fun w' => Below wr.heap.size wr w') (by kernel_rfl) (by kernel_rfl) (Below.refl _ _).drew ?_
                        refine wpQuiet_mv _ _ rfl rfl rfl ?_
                        go_frame
                        refine wpQuiet_mv _ _ rfl rfl rfl ?_
                        go_frame
                        refine wpQuiet_val rfl (.pointer (some ⟨gs, 0 + jj * 2, none⟩)) (fun w' _ => exec_indexB 32 43 _ _ rfl gs 0 _ _ rfl .i64 jj rfl hjn Trym.underlying32 2 Trym.size43) ?_
                        go_frame
                        refine wpQuiet_val rfl (.agg (pc y).toArray) (fun w' hw' => exec_loadB 43 _ rfl gs _ rfl (pc y) (by rw [Nat.zero_add]; exact pair_range (hBTr.all hw') HY.out) _ hfs rfl (by rw [pc_length]; exact Trym.size43)) ?_
                        go_frame
                        refine wpQuiet_mv _ _ rfl rfl rfl ?_
                        go_frame
                        refine wpQuiet_mv _ _ rfl rfl rfl ?_
                        go_frame
                        refine wpQuiet_val rfl (.pointer (some ⟨gs, 0 + ii * 2, none⟩)) (fun w' _ => exec_indexB 32 43 _ _ rfl gs 0 _ _ rfl .i64 ii rfl hin Trym.underlying32 2 Trym.size43) ?_
                        go_frame
                        refine wpQuiet_val rfl (.agg (pc x).toArray) (fun w' hw' => exec_loadB 43 _ rfl gs _ rfl (pc x) (by rw [Nat.zero_add]; exact pair_range (hBTr.all hw') HX.out) _ hfs rfl (by rw [pc_length]; exact Trym.size43)) ?_
                        go_frame
                        refine wpQuiet_mv _ _ rfl rfl rfl ?_
                        go_frame
                        refine wpQuiet_callB rfl (.bool true) 33 #[.agg (pc y).toArray, .agg (pc x).toArray, .bool nm] (fun w' => by simp [go_sem]) (fun w' hw' => (before_any y x nm w').mono (fun e w'' h => ⟨by rw [h.1, HBF.out], hw'.trans (h.2.mono hw'.size)⟩)) ?_
                        go_frame
                        refine wpQuiet_nil ?_
                        intro wq hbq
                        have hBTq := hBTr.all hbq
                        have hBDq := hBDr.all hbq
                        have hbwq : Below w.heap.size w wq := hbr.trans (hbq.mono hbr.size)
                        clear hbq hBTr hBDr hbr
                        go_wp2_with (first
                          | ((with_reducible show wpList _ _ _ (Oper.mk _ (Op.load 43 _) _ _ _ _ :: _) _ _); refine wpList_val rfl (exec_loadB 43 _ rfl gs (jj * 2) rfl (pc y) (pair_range hBTq HY.out) _ hfs rfl (by rw [pc_length]; exact Trym.size43)) ?_)
                          | ((with_reducible show wpList _ _ _ (Oper.mk _ (Op.store 43 _ _) _ _ _ _ :: _) _ _); refine wpList_storeB rfl 43 _ _ rfl gd (kk * 2) rfl (pc y) rfl _ 43 hBDq (by rw [pc_length]; exact Trym.size43) (by rw [flatP_length, pc_length, HLEN.out]; omega) (pc_ones _) ?_; intro w4 hB4 hg4))
                        have hB5 : Blk w4 gd (flatP (P0 ++ ((M ++ [y]) ++ Q'))) 43 := by
                          rw [flatP_put _ kk _ (by rw [HLEN.out]; omega), HSET.out y] at hB4
                          exact hB4
                        have hT5 : Blk w4 gs (flatP T) 43 := hBTq.grown hg4 (by simpa using hnsd)
                        have hb5 : Below w.heap.size w w4 := hbwq.grown hg4 hbwq.size (fun q hq => by cases hq; exact hgd)
                        go_roundw
                        case rel => exact ⟨ii, jj + 1, kk + 1, M ++ [y], Q', rfl, by go_num, by go_num, rel_right HR.out HY.out hjj (.inr ⟨x, hii, HX.out, HBF.out⟩), hT5, hB5, hb5⟩
                        case measure => simp [intOf]; omega
                      | false =>
                        have HBF : Hid (before nm y x = false) := hbf
                        clear hbf
                        go_wp2
                        refine wp_region_quietC (fun w' => Below wr.heap.size wr w') (by kernel_rfl) (by kernel_rfl) (Below.refl _ _).drew ?_
                        refine wpQuiet_mv _ _ rfl rfl rfl ?_
                        go_frame
                        refine wpQuiet_mv _ _ rfl rfl rfl ?_
                        go_frame
                        refine wpQuiet_val rfl (.pointer (some ⟨gs, 0 + jj * 2, none⟩)) (fun w' _ => exec_indexB 32 43 _ _ rfl gs 0 _ _ rfl .i64 jj rfl hjn Trym.underlying32 2 Trym.size43) ?_
                        go_frame
                        refine wpQuiet_val rfl (.agg (pc y).toArray) (fun w' hw' => exec_loadB 43 _ rfl gs _ rfl (pc y) (by rw [Nat.zero_add]; exact pair_range (hBTr.all hw') HY.out) _ hfs rfl (by rw [pc_length]; exact Trym.size43)) ?_
                        go_frame
                        refine wpQuiet_mv _ _ rfl rfl rfl ?_
                        go_frame
                        refine wpQuiet_mv _ _ rfl rfl rfl ?_
                        go_frame
                        refine wpQuiet_val rfl (.pointer (some ⟨gs, 0 + ii * 2, none⟩)) (fun w' _ => exec_indexB 32 43 _ _ rfl gs 0 _ _ rfl .i64 ii rfl hin Trym.underlying32 2 Trym.size43) ?_
                        go_frame
                        refine wpQuiet_val rfl (.agg (pc x).toArray) (fun w' hw' => exec_loadB 43 _ rfl gs _ rfl (pc x) (by rw [Nat.zero_add]; exact pair_range (hBTr.all hw') HX.out) _ hfs rfl (by rw [pc_length]; exact Trym.size43)) ?_
                        go_frame
                        refine wpQuiet_mv _ _ rfl rfl rfl ?_
                        go_frame
                        refine wpQuiet_callB rfl (.bool false) 33 #[.agg (pc y).toArray, .agg (pc x).toArray, .bool nm] (fun w' => by simp [go_sem]) (fun w' hw' => (before_any y x nm w').mono (fun e w'' h => ⟨by rw [h.1, HBF.out], hw'.trans (h.2.mono hw'.size)⟩)) ?_
                        go_frame
                        refine wpQuiet_nil ?_
                        intro wq hbq
                        have hBTq := hBTr.all hbq
                        have hBDq := hBDr.all hbq
                        have hbwq : Below w.heap.size w wq := hbr.trans (hbq.mono hbr.size)
                        clear hbq hBTr hBDr hbr
                        go_wp2_with (first
                          | ((with_reducible show wpList _ _ _ (Oper.mk _ (Op.load 43 _) _ _ _ _ :: _) _ _); refine wpList_val rfl (exec_loadB 43 _ rfl gs (ii * 2) rfl (pc x) (pair_range hBTq HX.out) _ hfs rfl (by rw [pc_length]; exact Trym.size43)) ?_)
                          | ((with_reducible show wpList _ _ _ (Oper.mk _ (Op.store 43 _ _) _ _ _ _ :: _) _ _); refine wpList_storeB rfl 43 _ _ rfl gd (kk * 2) rfl (pc x) rfl _ 43 hBDq (by rw [pc_length]; exact Trym.size43) (by rw [flatP_length, pc_length, HLEN.out]; omega) (pc_ones _) ?_; intro w4 hB4 hg4))
                        have hB5 : Blk w4 gd (flatP (P0 ++ ((M ++ [x]) ++ Q'))) 43 := by
                          rw [flatP_put _ kk _ (by rw [HLEN.out]; omega), HSET.out x] at hB4
                          exact hB4
                        have hT5 : Blk w4 gs (flatP T) 43 := hBTq.grown hg4 (by simpa using hnsd)
                        have hb5 : Below w.heap.size w w4 := hbwq.grown hg4 hbwq.size (fun q hq => by cases hq; exact hgd)
                        go_roundw
                        case rel => exact ⟨ii + 1, jj, kk + 1, M ++ [x], Q', by go_num, rfl, by go_num, rel_left HR.out HX.out hii (fun y2 _ hy2 => by rw [HY.out] at hy2; cases hy2; exact HBF.out) (by omega), hT5, hB5, hb5⟩
                        case measure => simp [intOf]; omega
                    · have hjh : jj = hi := by omega
                      subst hjh
                      clear hkk hMl hjj
                      go_wp2
                      go_loopw [12, 14] (fun s12 s14 wr => ∃ (ii kk : Nat) (M Q : List P2), s12 = .int .i64 ii ∧ s14 = .int .i64 kk ∧ MRel nm T P0 lo mid jj n X Y ii jj kk M Q ∧ Blk wr gs (flatP T) 43 ∧ Blk wr gd (flatP (P0 ++ (M ++ Q))) 43 ∧ Below w.heap.size w wr)
                        (fun s12 _ _ => mid - (intOf s12).toNat)
                      case atStart => exact ⟨ii, kk, M, Q, rfl, rfl, HR.out, hBTr, hBDr, hbr⟩
                      case round =>
                        clear hBTr hBDr hbr HR hii hi1 hi2 hj1 hj2
                        obtain ⟨ii, kk, M, Q, rfl, rfl, hR, hBTr, hBDr, hbr⟩ := hrel
                        have HR : Hid (MRel nm T P0 lo mid jj n X Y ii jj kk M Q) := hR
                        obtain ⟨hi1, hi2, hj1, hj2, hkk, hMl, _, _⟩ := hR
                        by_cases hii : ii < mid
                        · obtain ⟨x, hx⟩ : ∃ x, T[ii]? = some x := ⟨_, List.getElem?_eq_getElem (by omega)⟩
                          have HX : Hid (T[ii]? = some x) := hx
                          have hin : ii < n := by omega
                          clear hx
                          obtain ⟨hkn, q, Q', hQ, hset⟩ := rel_room HR.out hP0l hhn (by omega)
                          subst hQ
                          have HLEN : Hid ((P0 ++ (M ++ q :: Q')).length = n) := HR.out.2.2.2.2.2.2.1
                          have HSET : Hid (∀ x, (P0 ++ (M ++ q :: Q')).set kk x = P0 ++ ((M ++ [x]) ++ Q')) := hset
                          clear hset hkk hMl
                          go_wp2_with (first
                            | ((with_reducible show wpList _ _ _ (Oper.mk _ (Op.load 43 _) _ _ _ _ :: _) _ _); refine wpList_val rfl (exec_loadB 43 _ rfl gs (ii * 2) rfl (pc x) (pair_range hBTr HX.out) _ hfs rfl (by rw [pc_length]; exact Trym.size43)) ?_)
                            | ((with_reducible show wpList _ _ _ (Oper.mk _ (Op.store 43 _ _) _ _ _ _ :: _) _ _); refine wpList_storeB rfl 43 _ _ rfl gd (kk * 2) rfl (pc x) rfl _ 43 hBDr (by rw [pc_length]; exact Trym.size43) (by rw [flatP_length, pc_length, HLEN.out]; omega) (pc_ones _) ?_; intro w4 hB4 hg4))
                          have hB5 : Blk w4 gd (flatP (P0 ++ ((M ++ [x]) ++ Q'))) 43 := by
                            rw [flatP_put _ kk _ (by rw [HLEN.out]; omega), HSET.out x] at hB4
                            exact hB4
                          have hT5 : Blk w4 gs (flatP T) 43 := hBTr.grown hg4 (by simpa using hnsd)
                          have hb5 : Below w.heap.size w w4 := hbr.grown hg4 hbr.size (fun q hq => by cases hq; exact hgd)
                          go_roundw
                          case rel => exact ⟨ii + 1, kk + 1, M ++ [x], Q', by go_num, by go_num, rel_left HR.out HX.out hii (fun y2 h2 _ => by omega) (by omega), hT5, hB5, hb5⟩
                          case measure => simp [intOf]; omega
                        · obtain rfl : ii = mid := by omega
                          clear hkk hMl
                          have hfinP : Pass (before nm) (2 * wd) L (P0 ++ (M ++ Q)) (i + 1) := by
                            have h0 := HR.out
                            rw [HXX.out, HYY.out, HP0.out] at h0
                            rw [HP0.out]
                            exact rel_fin HCH.out HPASS.out HLO.out HN.out hw1 hlt2 HHI.out h0
                          have HFP : Hid (Pass (before nm) (2 * wd) L (P0 ++ (M ++ Q)) (i + 1)) := hfinP
                          have HLO2 : Hid (lo + 2 * wd = (i + 1) * (2 * wd)) := by
                            show _ = _
                            rw [Nat.add_mul, Nat.one_mul, ← HLO.out]
                          clear hfinP
                          go_wp2
                          refine wp_loop_rounds 1 ?_
                          rw [rounds_succ]
                          go_wp2
                          go_roundw
                          case rel => exact ⟨i + 1, lo + 2 * wd, P0 ++ (M ++ Q), by go_num, HLO2.out, by omega, hBTr, hBDr, HFP.out, hbr⟩
                          case measure => simp [intOf]; omega
                  · have hiim : ii = mid := by omega
                    subst hiim
                    clear hkk hMl hii
                    go_wp2
                    refine wp_loop_rounds 1 ?_
                    rw [rounds_succ]
                    go_wp2
                    go_loopw [13, 14] (fun s13 s14 wr => ∃ (jj kk : Nat) (M Q : List P2), s13 = .int .i64 jj ∧ s14 = .int .i64 kk ∧ MRel nm T P0 lo ii hi n X Y ii jj kk M Q ∧ Blk wr gs (flatP T) 43 ∧ Blk wr gd (flatP (P0 ++ (M ++ Q))) 43 ∧ Below w.heap.size w wr)
                      (fun s13 _ _ => hi - (intOf s13).toNat)
                    case atStart => exact ⟨jj, kk, M, Q, rfl, rfl, HR.out, hBTr, hBDr, hbr⟩
                    case round =>
                      clear hBTr hBDr hbr HR hi1 hi2 hj1 hj2
                      obtain ⟨jj, kk, M, Q, rfl, rfl, hR, hBTr, hBDr, hbr⟩ := hrel
                      have HR : Hid (MRel nm T P0 lo ii hi n X Y ii jj kk M Q) := hR
                      obtain ⟨hi1, hi2, hj1, hj2, hkk, hMl, _, _⟩ := hR
                      by_cases hjj : jj < hi
                      · obtain ⟨y, hy⟩ : ∃ y, T[jj]? = some y := ⟨_, List.getElem?_eq_getElem (by omega)⟩
                        have HY : Hid (T[jj]? = some y) := hy
                        have hjn : jj < n := by omega
                        clear hy
                        obtain ⟨hkn, q, Q', hQ, hset⟩ := rel_room HR.out hP0l hhn (by omega)
                        subst hQ
                        have HLEN : Hid ((P0 ++ (M ++ q :: Q')).length = n) := HR.out.2.2.2.2.2.2.1
                        have HSET : Hid (∀ x, (P0 ++ (M ++ q :: Q')).set kk x = P0 ++ ((M ++ [x]) ++ Q')) := hset
                        clear hset hkk hMl
                        go_wp2_with (first
                          | ((with_reducible show wpList _ _ _ (Oper.mk _ (Op.load 43 _) _ _ _ _ :: _) _ _); refine wpList_val rfl (exec_loadB 43 _ rfl gs (jj * 2) rfl (pc y) (pair_range hBTr HY.out) _ hfs rfl (by rw [pc_length]; exact Trym.size43)) ?_)
                          | ((with_reducible show wpList _ _ _ (Oper.mk _ (Op.store 43 _ _) _ _ _ _ :: _) _ _); refine wpList_storeB rfl 43 _ _ rfl gd (kk * 2) rfl (pc y) rfl _ 43 hBDr (by rw [pc_length]; exact Trym.size43) (by rw [flatP_length, pc_length, HLEN.out]; omega) (pc_ones _) ?_; intro w4 hB4 hg4))
                        have hB5 : Blk w4 gd (flatP (P0 ++ ((M ++ [y]) ++ Q'))) 43 := by
                          rw [flatP_put _ kk _ (by rw [HLEN.out]; omega), HSET.out y] at hB4
                          exact hB4
                        have hT5 : Blk w4 gs (flatP T) 43 := hBTr.grown hg4 (by simpa using hnsd)
                        have hb5 : Below w.heap.size w w4 := hbr.grown hg4 hbr.size (fun q hq => by cases hq; exact hgd)
                        go_roundw
                        case rel => exact ⟨jj + 1, kk + 1, M ++ [y], Q', by go_num, by go_num, rel_right HR.out HY.out hjj (.inl rfl), hT5, hB5, hb5⟩
                        case measure => simp [intOf]; omega
                      · obtain rfl : jj = hi := by omega
                        clear hkk hMl
                        have hfinP : Pass (before nm) (2 * wd) L (P0 ++ (M ++ Q)) (i + 1) := by
                          have h0 := HR.out
                          rw [HXX.out, HYY.out, HP0.out] at h0
                          rw [HP0.out]
                          exact rel_fin HCH.out HPASS.out HLO.out HN.out hw1 hlt2 HHI.out h0
                        have HFP : Hid (Pass (before nm) (2 * wd) L (P0 ++ (M ++ Q)) (i + 1)) := hfinP
                        have HLO2 : Hid (lo + 2 * wd = (i + 1) * (2 * wd)) := by
                          show _ = _
                          rw [Nat.add_mul, Nat.one_mul, ← HLO.out]
                        clear hfinP
                        go_wp2
                        go_roundw
                        case rel => exact ⟨i + 1, lo + 2 * wd, P0 ++ (M ++ Q), by go_num, HLO2.out, by omega, hBTr, hBDr, HFP.out, hbr⟩
                        case measure => simp [intOf]; omega
          · have hfin := HPASS.out.fin (by rw [← HLO.out, ← HN.out]; omega)
            have HFIN : Hid (Chunks (before nm) (2 * wd) L D2) := hfin
            clear hfin
            go_wp2
            go_roundw
            case rel => exact ⟨gd, gs, D2, T, 2 * wd, rfl, rfl, by go_num, by omega, by omega, hnsd.symm, hgd, hgs, hBDp, hBTp, hTl, HFIN.out, hbp⟩
            case measure => simp [intOf]; omega
      · go_wp2
        go_ret
        have hd := HCH.out.done (by rw [← HN.out]; omega)
        exact ⟨gs, T, rfl, hBT, hgs, hTl, hd.1, hd.2, hbo⟩
theorem sort_gen (a : Option Addr) (c : Nat) (L : List P2) (nm : Bool) (w : World) (hl : L.length ≤ 65536) (hP : Src w a c L) :
    Calls Trym.prog 18 #[.slice a L.length c, .bool nm] w fun e w' => ∃ g T, e = .returned (.slice (some ⟨g, 0, none⟩) L.length L.length) ∧ Blk w' g (flatP T) 43 ∧ w.heap.size ≤ g ∧ T.length = L.length ∧ Srt (before nm) T ∧ Same (before nm) T L ∧ Below w.heap.size w w' :=
  sort_big a c L nm w (by omega) hP
theorem sort_any (a : Option Addr) (L : List P2) (nm : Bool) (w : World) (hl : L.length ≤ 65536) (hP : Prs 43 w a L) :
    Calls Trym.prog 18 #[.slice a L.length L.length, .bool nm] w fun e w' => ∃ g T, e = .returned (.slice (some ⟨g, 0, none⟩) L.length L.length) ∧ Blk w' g (flatP T) 43 ∧ w.heap.size ≤ g ∧ T.length = L.length ∧ Srt (before nm) T ∧ Same (before nm) T L ∧ Below w.heap.size w w' :=
  sort_gen a L.length L nm w hl (Src.of hP)
end Go.Proofs.Qxb6603070aMods.M
