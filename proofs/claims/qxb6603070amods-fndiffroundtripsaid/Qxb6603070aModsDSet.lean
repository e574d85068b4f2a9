import Derived.Test.Qxb6603070aModsDCont
namespace Go.Proofs.Qxb6603070aMods.M
open Go.RowKit Go.Proofs.Qxb6603070aMods.L

set_option maxHeartbeats 3200000 in
/-- zzDedup. -/
theorem dedup_any (a : Option Addr) (c : Nat) (L : List P2) (w : World) (hl : L.length ≤ 262144) (hS : Src w a c L) (hs : Srt (before false) L) :
    Calls Trym.prog 34 #[.slice a L.length c] w fun e w' => ∃ a' c' R, e = .returned (.slice a' R.length c') ∧ Src w' a' c' R ∧ IsSet L R ∧ Below w.heap.size w w' := by
  obtain ⟨fs, hfs⟩ := struct43
  obtain ⟨n, hn⟩ : ∃ n, n = L.length := ⟨_, rfl⟩
  have HS : Hid (Src w a c L) := hS
  have HT : Hid (Srt (before false) L) := hs
  have HN : Hid (n = L.length) := hn
  rw [← hn] at hl ⊢
  clear hS hs hn
  go_enter Trym.func34, Trym.ntmps34
  go_wp2
  go_loopw [3, 4] (fun s3 s4 wr => ∃ (k : Nat) (R : List P2), k ≤ n ∧ s4 = .int .i64 k ∧ wr.ownsRow w.heap.size 43 2 s3 R.length (flatP R) ∧ SetTo L k R ∧ Below w.heap.size w wr)
    (fun _ s4 _ => n - (intOf s4).toNat)
  case atStart => exact ⟨0, [], Nat.zero_le _, rfl, World.ownsRow_nil _ _ _ _, SetTo.start L, Below.refl _ _⟩
  case round =>
    obtain ⟨k, R, hk, rfl, hown, hSet, hbr⟩ := hrel
    have HSET : Hid (SetTo L k R) := hSet
    have hRl : R.length ≤ k := hSet.2.2
    clear hSet
    by_cases hlt : k < n
    · obtain ⟨p, hp⟩ : ∃ p, L[k]? = some p := ⟨_, List.getElem?_eq_getElem (by rw [← HN.out]; exact hlt)⟩
      have HP : Hid (L[k]? = some p) := hp
      obtain ⟨g, rfl, hra⟩ := HS.out.at hp
      have HRA : Hid (∀ w', Below w.heap.size w w' → w'.rangeAt g (k * 2) (pc p)) := hra
      clear hp hra
      rcases Nat.eq_zero_or_pos k with rfl | hkp
      · go_wp2
        go_quiet (fail)
        have hbz : Below w.heap.size w (wr.drewN nq) := hbr.trans ((drewN_below wr nq).mono hbr.size)
        have hownz : (wr.drewN nq).ownsRow w.heap.size 43 2 _ R.length (flatP R) := own_all hown (drewN_below wr nq)
        obtain ⟨wz, hwz⟩ : ∃ wz, wz = wr.drewN nq := ⟨_, rfl⟩
        rw [← hwz] at hbz hownz ⊢
        clear hwz hown hbr
        obtain ⟨i0, hi, hz0, hz1, hz2⟩ := info_parts Trym.info43
        have HHI : Hid (Trym.prog.info? 43 = some i0) := hi
        have HZ0 : Hid (i0.zero = some (.agg #[.string ByteArray.empty, .string ByteArray.empty])) := hz0
        have HZ1 : Hid (i0.size = 2) := hz1
        have HZ2 : Hid (i0.bytes = 32) := hz2
        clear hi hz0 hz1 hz2
        go_wp2_with (first
          | ((with_reducible show wpList _ _ _ (Oper.mk _ (Op.load 43 _) _ _ _ _ :: _) _ _); refine wpList_val rfl (exec_loadB 43 _ rfl g (0 * 2) rfl (pc p) (HRA.out _ hbz) _ hfs rfl (by rw [pc_length]; exact Trym.size43)) ?_)
          | ((with_reducible show wpList _ _ _ (Oper.mk _ (Op.buildSlice 32 _ _) _ _ _ _ :: _) _ _); refine wpList_buildSliceB rfl 32 43 _ rfl (pc p) rfl Trym.underlying32 [.string ByteArray.empty, .string ByteArray.empty] 2 slice43 rfl rfl (by omega) (by omega) ?_; intro gb w7 hgb hBb hgr7; have hown7 := own_grown hownz hgr7 (Classical.em _))
          | (at_builtin; refine wpList_append_own_wide _ rfl _ _ 32 rfl w.heap.size 43 i0 (.agg #[.string ByteArray.empty, .string ByteArray.empty]) 2 32 Trym.underlying32 HHI.out HZ0.out HZ1.out HZ2.out rfl (by omega) _ _ _ rfl hown7 ⟨gb, 0, none⟩ 1 1 (pc p) rfl (by rw [pc_length]) (fun j v hv => by rw [Addr.add_lit, Nat.zero_add, hBb.cell]; exact hv) (pc_ones p) (by unfold maxLen; omega) (by omega) (Nat.le_trans hbz.size hgr7.size) ?_; intro v8 w8 hown8 hgr8 _))
        have hb8 : Below w.heap.size w w8 := (hbz.trans ((grownBelow hgr7).mono hbz.size)).grown hgr8 (Nat.le_trans hbz.size hgr7.size) (fun q hq => row_ge hown7 hq)
        go_roundw
        case rel => exact ⟨0 + 1, R ++ [p], by omega, by go_num, by rw [flatP_append, List.length_append]; simpa [flatP] using hown8, SetTo.put HT.out HSET.out HP.out (.inl rfl), hb8⟩
        case measure => simp [intOf]; omega
      · obtain ⟨j, rfl⟩ : ∃ j, k = j + 1 := ⟨k - 1, by omega⟩
        obtain ⟨q, hq⟩ : ∃ q, L[j]? = some q := ⟨_, List.getElem?_eq_getElem (by rw [← HN.out]; omega)⟩
        have HQ : Hid (L[j]? = some q) := hq
        have HRQ : Hid (∀ w', Below w.heap.size w w' → w'.rangeAt g (j * 2) (pc q)) := by
          obtain ⟨g', e, h⟩ := HS.out.at hq
          cases e
          exact h
        clear hq
        have hjn : j < n := by omega
        have he0 : (((j : Int) + 1) == 0) = false := by
          rw [beq_eq_false_iff_ne]
          omega
        by_cases hpq : p = q
        · have HD : Hid (decide (p = q) = true) := decide_eq_true hpq
          have HPQ : Hid (p = q) := hpq
          clear hpq
          go_wp2
          refine wp_region_quiet_lit (by kernel_rfl) (by kernel_rfl) ?_
          repeat (go_big_quiet_step (fail))
          refine wpQuiet_val rfl (.agg (pc p).toArray) (fun w' hw' => exec_loadB 43 _ rfl g ((j + 1) * 2) rfl (pc p) (HRA.out w' (hbr.trans ((lit_below hw').mono hbr.size))) _ hfs rfl (by rw [pc_length]; exact Trym.size43)) ?_
          go_frame
          repeat (go_big_quiet_step (fail))
          refine wpQuiet_val rfl (.agg (pc q).toArray) (fun w' hw' => exec_loadB 43 _ rfl g (j * 2) rfl (pc q) (HRQ.out w' (hbr.trans ((lit_below hw').mono hbr.size))) _ hfs rfl (by rw [pc_length]; exact Trym.size43)) ?_
          go_frame
          refine wpQuiet_val rfl (.bool (!decide (p = q))) (fun w' _ => exec_neq43 _ _ 43 rfl p q rfl rfl) ?_
          rw [HD.out]
          go_frame
          repeat (go_big_quiet_step (fail))
          refine wpQuiet_nil ?_
          intro wz hwz
          have hbz : Below w.heap.size w wz := hbr.trans ((lit_below hwz).mono hbr.size)
          have hownz : wz.ownsRow w.heap.size 43 2 _ R.length (flatP R) := own_all hown (lit_below hwz)
          clear hwz hown hbr
          go_wp2
          go_roundw
          case rel => exact ⟨j + 1 + 1, R, by omega, by go_num, hownz, HSET.out.same HP.out (by omega) (by rw [HPQ.out]; exact HQ.out), hbz⟩
          case measure => simp [intOf]; omega
        · have HD : Hid (decide (p = q) = false) := decide_eq_false hpq
          have HPQ : Hid (p ≠ q) := hpq
          clear hpq
          go_wp2
          refine wp_region_quiet_lit (by kernel_rfl) (by kernel_rfl) ?_
          repeat (go_big_quiet_step (fail))
          refine wpQuiet_val rfl (.agg (pc p).toArray) (fun w' hw' => exec_loadB 43 _ rfl g ((j + 1) * 2) rfl (pc p) (HRA.out w' (hbr.trans ((lit_below hw').mono hbr.size))) _ hfs rfl (by rw [pc_length]; exact Trym.size43)) ?_
          go_frame
          repeat (go_big_quiet_step (fail))
          refine wpQuiet_val rfl (.agg (pc q).toArray) (fun w' hw' => exec_loadB 43 _ rfl g (j * 2) rfl (pc q) (HRQ.out w' (hbr.trans ((lit_below hw').mono hbr.size))) _ hfs rfl (by rw [pc_length]; exact Trym.size43)) ?_
          go_frame
          refine wpQuiet_val rfl (.bool (!decide (p = q))) (fun w' _ => exec_neq43 _ _ 43 rfl p q rfl rfl) ?_
          rw [HD.out]
          go_frame
          repeat (go_big_quiet_step (fail))
          refine wpQuiet_nil ?_
          intro wz hwz
          have hbz : Below w.heap.size w wz := hbr.trans ((lit_below hwz).mono hbr.size)
          have hownz : wz.ownsRow w.heap.size 43 2 _ R.length (flatP R) := own_all hown (lit_below hwz)
          clear hwz hown hbr
          obtain ⟨i0, hi, hz0, hz1, hz2⟩ := info_parts Trym.info43
          have HHI : Hid (Trym.prog.info? 43 = some i0) := hi
          have HZ0 : Hid (i0.zero = some (.agg #[.string ByteArray.empty, .string ByteArray.empty])) := hz0
          have HZ1 : Hid (i0.size = 2) := hz1
          have HZ2 : Hid (i0.bytes = 32) := hz2
          clear hi hz0 hz1 hz2
          go_wp2_with (first
            | ((with_reducible show wpList _ _ _ (Oper.mk _ (Op.load 43 _) _ _ _ _ :: _) _ _); refine wpList_val rfl (exec_loadB 43 _ rfl g ((j + 1) * 2) rfl (pc p) (HRA.out _ hbz) _ hfs rfl (by rw [pc_length]; exact Trym.size43)) ?_)
            | ((with_reducible show wpList _ _ _ (Oper.mk _ (Op.buildSlice 32 _ _) _ _ _ _ :: _) _ _); refine wpList_buildSliceB rfl 32 43 _ rfl (pc p) rfl Trym.underlying32 [.string ByteArray.empty, .string ByteArray.empty] 2 slice43 rfl rfl (by omega) (by omega) ?_; intro gb w7 hgb hBb hgr7; have hown7 := own_grown hownz hgr7 (Classical.em _))
            | (at_builtin; refine wpList_append_own_wide _ rfl _ _ 32 rfl w.heap.size 43 i0 (.agg #[.string ByteArray.empty, .string ByteArray.empty]) 2 32 Trym.underlying32 HHI.out HZ0.out HZ1.out HZ2.out rfl (by omega) _ _ _ rfl hown7 ⟨gb, 0, none⟩ 1 1 (pc p) rfl (by rw [pc_length]) (fun j v hv => by rw [Addr.add_lit, Nat.zero_add, hBb.cell]; exact hv) (pc_ones p) (by unfold maxLen; omega) (by omega) (Nat.le_trans hbz.size hgr7.size) ?_; intro v8 w8 hown8 hgr8 _))
          have hb8 : Below w.heap.size w w8 := (hbz.trans ((grownBelow hgr7).mono hbz.size)).grown hgr8 (Nat.le_trans hbz.size hgr7.size) (fun q hq => row_ge hown7 hq)
          go_roundw
          case rel => exact ⟨j + 1 + 1, R ++ [p], by omega, by go_num, by rw [flatP_append, List.length_append]; simpa [flatP] using hown8, SetTo.put HT.out HSET.out HP.out (.inr ⟨q, HQ.out, HPQ.out⟩), hb8⟩
          case measure => simp [intOf]; omega
    · obtain rfl : k = n := by omega
      obtain ⟨a', c', hv, hSrc⟩ := Src.grown hown rfl
      subst hv
      go_wp2
      go_ret
      have hfin := HSET.out
      rw [HN.out] at hfin
      exact ⟨a', c', R, rfl, hSrc, hfin.fin, hbr⟩

/-- zzSetOf. -/
theorem setOf_any (a : Option Addr) (c : Nat) (L : List P2) (w : World) (hl : L.length ≤ 262144) (hS : Src w a c L) :
    Calls Trym.prog 15 #[.slice a L.length c] w fun e w' => ∃ a' c' R, e = .returned (.slice a' R.length c') ∧ Src w' a' c' R ∧ IsSet L R ∧ Below w.heap.size w w' := by
  have HS : Hid (Src w a c L) := hS
  clear hS
  go_enter Trym.func15, Trym.ntmps15
  go_wp2_with fail
  refine (sort_big a c L false w hl HS.out).mono ?_
  rintro e w1 ⟨g, T, rfl, hB, _, hTl, hSrt, hSame, hb1⟩
  go_wp2_with fail
  have hcall := dedup_any (some ⟨g, 0, none⟩) T.length T w1 (by omega) (Src.of (.inr ⟨g, rfl, hB⟩)) hSrt
  rw [hTl] at hcall
  refine hcall.mono ?_
  rintro e w2 ⟨a', c', R, rfl, hSrc, hSet, hb2⟩
  go_wp2
  go_ret
  refine ⟨a', c', R, rfl, hSrc, ⟨hSet.1, fun x => (hSet.2.1 x).trans ⟨hSame.mem (before_ord false), hSame.symm.mem (before_ord false)⟩, by rw [← hTl]; exact hSet.2.2⟩, hb1.trans (hb2.mono hb1.size)⟩
end Go.Proofs.Qxb6603070aMods.M
