import Derived.Test.Qxb6000998aModsJTop
namespace Go.Proofs.Qxb6000998aMods.J
open Go.RowKit Go.Proofs.Qxb6000998aMods.L

theorem putL_whole {Z D : List Value} {n : Nat} (hZ : Z.length = n) (hD : D.length = n) : putL Z 0 D = D := by
  unfold putL
  rw [List.take_zero, List.nil_append, List.drop_of_length_le (by omega), List.append_nil]

set_option maxHeartbeats 4000000 in
theorem law_small (us vs ts zs ys : List Int) (hu : us.length = 32) (hv : vs.length = 32) (hts : ts.length = 32) (a2 a3 : Option Addr) (n2 c2 n3 c3 : Nat) (r : Int) (w : World) (hn : n2 + n3 ≤ 1048576)
    (hz : ∀ n ∈ zs, 0 ≤ n ∧ n ≤ 255) (hy : ∀ n ∈ ys, 0 ≤ n ∧ n ≤ 255) (lz : zs.length = n2)
    (HC2 : Hid (∀ w1, Below w.heap.size w w1 → Calls Trym.prog 9 #[.slice a2 n2 c2] w1 fun e w' => ∃ v, e = .returned v ∧ Bytes w' v zs ∧ Below w1.heap.size w1 w'))
    (HC3 : Hid (∀ w1, Below w.heap.size w w1 → Calls Trym.prog 9 #[.slice a3 n3 c3] w1 fun e w' => ∃ v, e = .returned v ∧ Bytes w' v ys ∧ Below w1.heap.size w1 w')) :
    Calls Trym.prog 4 #[.agg (us.map (Value.int .u8)).toArray, .agg (vs.map (Value.int .u8)).toArray, .slice a2 n2 c2, .slice a3 n3 c3, .int .u64 r, .agg (ts.map (Value.int .u8)).toArray] w fun e w' =>
      e = .returned (.bool true) ∧ Below w.heap.size w w' := by
  obtain ⟨Z, hZi, hZl, hZo⟩ := zero37
  obtain ⟨fs, hfs, hpl⟩ := struct37
  have hZz : (Trym.prog.info? 37).map (·.zero) = some (some (.agg Z.toArray)) := by
    obtain ⟨i, hi, hh⟩ := Option.map_eq_some_iff.1 hZi
    simp only [Prod.mk.injEq] at hh
    simp [hi, hh.1]
  have d0u := drop0 us hu
  have d0v := drop0 vs hv
  have d0t := drop0 ts hts
  go_enter Trym.func4, Trym.ntmps4
  go_wp2_with (first | (with_reducible show wpList _ _ _ (Oper.mk _ (Op.box 22 (Operand.tmp 0)) _ _ _ _ :: _) _ _; refine wpList_boxB rfl 22 _ rfl _ (us.map (Value.int .u8)) rfl rfl ?_) | fail)
  intro g1 w1 hg1 hB1 hgr1
  go_wp2_with (first | (with_reducible show wpList _ _ _ (Oper.mk _ (Op.box 22 (Operand.tmp 1)) _ _ _ _ :: _) _ _; refine wpList_boxB rfl 22 _ rfl _ (vs.map (Value.int .u8)) rfl rfl ?_) | fail)
  intro g2 w2 hg2 hB2 hgr2
  go_wp2_with (first | (with_reducible show wpList _ _ _ (Oper.mk _ (Op.box 22 (Operand.tmp 5)) _ _ _ _ :: _) _ _; refine wpList_boxB rfl 22 _ rfl _ (ts.map (Value.int .u8)) rfl rfl ?_) | fail)
  intro g3 w3 hg3 hB3 hgr3
  have hb2 := (grownBelow hgr1).trans ((grownBelow hgr2).mono hgr1.size)
  have hbel := hb2.trans ((grownBelow hgr3).mono hb2.size)
  replace hB1 := (hB1.kept hgr2).kept hgr3
  replace hB2 := hB2.kept hgr3
  clear hgr1 hgr2 hgr3 hb2 hg1 hg2 hg3
  go_wp2_with (first
    | (with_reducible show wpList _ _ _ (Oper.mk _ (Op.load 22 (Operand.tmp 6)) _ _ _ _ :: _) _ _; refine wpList_loadB rfl 22 _ rfl g1 0 rfl _ 22 32 hB1 _ Trym.underlying22 rfl Trym.size22 (by simp [hu]) ?_; rw [d0u])
    | (with_reducible show wpList _ _ _ (Oper.mk _ (Op.load 22 (Operand.tmp 7)) _ _ _ _ :: _) _ _; refine wpList_loadB rfl 22 _ rfl g2 0 rfl _ 22 32 hB2 _ Trym.underlying22 rfl Trym.size22 (by simp [hv]) ?_; rw [d0v])
    | (with_reducible show wpList _ _ _ (Oper.mk _ (Op.load 22 (Operand.tmp 11)) _ _ _ _ :: _) _ _; refine wpList_loadB rfl 22 _ rfl g3 0 rfl _ 22 32 hB3 _ Trym.underlying22 rfl Trym.size22 (by simp [hts]) ?_; rw [d0t]))
  refine (zzbytes_any us vs ts a2 a3 n2 c2 n3 c3 r w3 true (by omega) (by omega) (by simpa using hn)).mono ?_
  rintro e w4 ⟨rfl, hb4⟩
  replace hB1 := hB1.all hb4
  replace hB2 := hB2.all hb4
  replace hB3 := hB3.all hb4
  replace hbel := hbel.trans (hb4.mono hbel.size)
  clear hb4
  go_wp2_with fail
  refine (HC2.out w4 hbel).mono ?_
  rintro e w5 ⟨mu, rfl, hmu, hb5⟩
  replace hB1 := hB1.all hb5
  replace hB2 := hB2.all hb5
  replace hB3 := hB3.all hb5
  replace hbel := hbel.trans (hb5.mono hbel.size)
  clear hb5
  go_wp2_with fail
  refine (HC3.out w5 hbel).mono ?_
  rintro e w6 ⟨mv, rfl, hmv, hb6⟩
  replace hB1 := hB1.all hb6
  replace hB2 := hB2.all hb6
  replace hB3 := hB3.all hb6
  replace hmu := hmu.all hb6
  replace hbel := hbel.trans (hb6.mono hbel.size)
  clear hb6
  have omu := hmu.one
  have omv := hmv.one
  have cmu : mu.cells = #[mu] := by rcases hmu with ⟨rfl, _⟩ | ⟨g, rfl, _⟩ <;> rfl
  have cmv : mv.cells = #[mv] := by rcases hmv with ⟨rfl, _⟩ | ⟨g, rfl, _⟩ <;> rfl
  have fD1 := blkD_fill Z hZl (.int .u8 1) (ts.map (Value.int .u8)) (vs.map (Value.int .u8)) mu (by simp [hts]) (by simp [hv]) rfl cmu
  have fD2 := blkD_fill Z hZl (.int .u8 1) (ts.map (Value.int .u8)) (us.map (Value.int .u8)) mv (by simp [hts]) (by simp [hu]) rfl cmv
  obtain ⟨lD1, oD1, mD1, pD1⟩ := blkD_facts Z hZl hZo (.int .u8 1) (ts.map (Value.int .u8)) (vs.map (Value.int .u8)) mu (by simp [hts]) (by simp [hv]) rfl (Ones.ints _ _) (Ones.ints _ _) omu
  obtain ⟨lD2, oD2, mD2, pD2⟩ := blkD_facts Z hZl hZo (.int .u8 1) (ts.map (Value.int .u8)) (us.map (Value.int .u8)) mv (by simp [hts]) (by simp [hu]) rfl (Ones.ints _ _) (Ones.ints _ _) omv
  obtain ⟨D1, hD1⟩ : ∃ D, D = blkD Z (.int .u8 1) (ts.map (Value.int .u8)) (vs.map (Value.int .u8)) mu := ⟨_, rfl⟩
  obtain ⟨D2, hD2⟩ : ∃ D, D = blkD Z (.int .u8 1) (ts.map (Value.int .u8)) (us.map (Value.int .u8)) mv := ⟨_, rfl⟩
  rw [← hD1] at fD1 lD1 oD1 mD1 pD1
  rw [← hD2] at fD2 lD2 oD2 mD2 pD2
  clear hD1 hD2 omu omv cmu cmv
  go_wp2_with (first
    | (with_reducible show wpList _ _ _ (Oper.mk _ (Op.load 22 (Operand.tmp 7)) _ _ _ _ :: _) _ _; refine wpList_loadB rfl 22 _ rfl g2 0 rfl _ 22 32 hB2 _ Trym.underlying22 rfl Trym.size22 (by simp [hv]) ?_; rw [d0v])
    | (with_reducible show wpList _ _ _ (Oper.mk _ (Op.load 22 (Operand.tmp 11)) _ _ _ _ :: _) _ _; refine wpList_loadB rfl 22 _ rfl g3 0 rfl _ 22 32 hB3 _ Trym.underlying22 rfl Trym.size22 (by simp [hts]) ?_; rw [d0t])
    | (with_reducible show wpList _ _ _ (Oper.mk _ (Op.build 37 _) _ _ _ _ :: _) _ _; refine wpList_buildB rfl 37 _ rfl [(0, .int .u8 1), (3, .agg (ts.map (Value.int .u8)).toArray), (4, .agg (vs.map (Value.int .u8)).toArray), (5, mu)] (by simp [Act.eval]) fs hfs Z hZz _ hpl D1 fD1 ?_)
    | (with_reducible show wpList _ _ _ (Oper.mk _ (Op.alloc 37) _ _ _ _ :: _) _ _; refine wpList_allocB rfl 37 rfl (.agg Z.toArray) Z hZz rfl ?_))
  intro gb w7 hgb hBb hgr7
  go_wp2_with (first | (with_reducible show wpList _ _ _ (Oper.mk _ (Op.store 37 _ _) _ _ _ _ :: _) _ _; refine wpList_storeB rfl 37 _ _ rfl gb 0 rfl D1 rfl Z 37 hBb (by rw [lD1]; exact Trym.size37) (by omega) oD1 ?_) | fail)
  intro w8 hBb8 hgr8
  have hb8 : Below w6.heap.size w6 w8 := (grownBelow hgr7).grown hgr8 hgr7.size (fun k hk => by cases hk; exact hgb)
  have eD1 : putL Z 0 D1 = D1 := putL_whole hZl lD1
  rw [eD1] at hBb8
  replace hB1 := hB1.all hb8
  replace hB2 := hB2.all hb8
  replace hB3 := hB3.all hb8
  replace hmu := hmu.all hb8
  replace hmv := hmv.all hb8
  replace hbel := hbel.trans (hb8.mono hbel.size)
  clear hb8 hgr7 hgr8 hBb hgb fD1 eD1
  go_wp2_with (first
    | (with_reducible show wpList _ _ _ (Oper.mk _ (Op.load 22 (Operand.tmp 6)) _ _ _ _ :: _) _ _; refine wpList_loadB rfl 22 _ rfl g1 0 rfl _ 22 32 hB1 _ Trym.underlying22 rfl Trym.size22 (by simp [hu]) ?_; rw [d0u])
    | (with_reducible show wpList _ _ _ (Oper.mk _ (Op.load 22 (Operand.tmp 11)) _ _ _ _ :: _) _ _; refine wpList_loadB rfl 22 _ rfl g3 0 rfl _ 22 32 hB3 _ Trym.underlying22 rfl Trym.size22 (by simp [hts]) ?_; rw [d0t])
    | (with_reducible show wpList _ _ _ (Oper.mk _ (Op.build 37 _) _ _ _ _ :: _) _ _; refine wpList_buildB rfl 37 _ rfl [(0, .int .u8 1), (3, .agg (ts.map (Value.int .u8)).toArray), (4, .agg (us.map (Value.int .u8)).toArray), (5, mv)] (by simp [Act.eval]) fs hfs Z hZz _ hpl D2 fD2 ?_)
    | (with_reducible show wpList _ _ _ (Oper.mk _ (Op.alloc 37) _ _ _ _ :: _) _ _; refine wpList_allocB rfl 37 rfl (.agg Z.toArray) Z hZz rfl ?_))
  intro gv w9 hgv hBv hgr9
  go_wp2_with (first | (with_reducible show wpList _ _ _ (Oper.mk _ (Op.store 37 _ _) _ _ _ _ :: _) _ _; refine wpList_storeB rfl 37 _ _ rfl gv 0 rfl D2 rfl Z 37 hBv (by rw [lD2]; exact Trym.size37) (by omega) oD2 ?_) | fail)
  intro w10 hBv10 hgr10
  have hb10 : Below w8.heap.size w8 w10 := (grownBelow hgr9).grown hgr10 hgr9.size (fun k hk => by cases hk; exact hgv)
  have eD2 : putL Z 0 D2 = D2 := putL_whole hZl lD2
  rw [eD2] at hBv10
  replace hB1 := hB1.all hb10
  replace hB2 := hB2.all hb10
  replace hmu := hmu.all hb10
  replace hmv := hmv.all hb10
  replace hBb8 := hBb8.all hb10
  replace hbel := hbel.trans (hb10.mono hbel.size)
  clear hb10 hgr9 hgr10 hBv hgv fD2 eD2 hB3 d0t
  go_wp2_with (first | (at_make; refine wpList_makeB rfl _ _ 39 rfl 37 (.agg Z.toArray) Z rfl 196 240 hZl Trym.underlying39 hZi _ _ _ _ 1 rfl rfl rfl rfl (by omega) (by unfold maxLen; omega) ?_) | fail)
  intro gf w11 hgf hBf hgr11
  replace hBf : Blk w11 gf Z 37 := by simpa using hBf
  have hBv11 := hBv10.kept hgr11
  have dD2 : (D2.drop 0).take 196 = D2 := by rw [List.drop_zero, List.take_of_length_le (by omega)]
  go_wp2_with (first
    | (with_reducible show wpList _ _ _ (Oper.mk _ (Op.load 37 _) _ _ _ _ :: _) _ _; refine wpList_loadB rfl 37 _ rfl gv 0 rfl _ 37 196 hBv11 _ hfs rfl Trym.size37 (by omega) ?_; rw [dD2])
    | (with_reducible show wpList _ _ _ (Oper.mk _ (Op.store 37 _ _) _ _ _ _ :: _) _ _; refine wpList_storeB rfl 37 _ _ rfl gf 0 rfl D2 rfl Z 37 hBf (by rw [lD2]; exact Trym.size37) (by omega) oD2 ?_))
  intro w12 hBf12 hgr12
  have hb12 : Below w10.heap.size w10 w12 := (grownBelow hgr11).grown hgr12 hgr11.size (fun k hk => by cases hk; exact hgf)
  have eD2 : putL Z 0 D2 = D2 := putL_whole hZl lD2
  rw [eD2] at hBf12
  replace hB1 := hB1.all hb12
  replace hB2 := hB2.all hb12
  replace hmu := hmu.all hb12
  replace hmv := hmv.all hb12
  replace hBb8 := hBb8.all hb12
  replace hBv10 := hBv10.all hb12
  replace hbel := hbel.trans (hb12.mono hbel.size)
  clear hb12 hgr11 hgr12 hBf hgf eD2 dD2 hBv11
  go_wp2_with (first | (at_make; refine wpList_makeB rfl _ _ 39 rfl 37 (.agg Z.toArray) Z rfl 196 240 hZl Trym.underlying39 hZi _ _ _ _ 1 rfl rfl rfl rfl (by omega) (by unfold maxLen; omega) ?_) | fail)
  intro gh w13 hgh hBh hgr13
  replace hBh : Blk w13 gh Z 37 := by simpa using hBh
  have hBb13 := hBb8.kept hgr13
  have dD1 : (D1.drop 0).take 196 = D1 := by rw [List.drop_zero, List.take_of_length_le (by omega)]
  go_wp2_with (first
    | (with_reducible show wpList _ _ _ (Oper.mk _ (Op.load 37 _) _ _ _ _ :: _) _ _; refine wpList_loadB rfl 37 _ rfl gb 0 rfl _ 37 196 hBb13 _ hfs rfl Trym.size37 (by omega) ?_; rw [dD1])
    | (with_reducible show wpList _ _ _ (Oper.mk _ (Op.store 37 _ _) _ _ _ _ :: _) _ _; refine wpList_storeB rfl 37 _ _ rfl gh 0 rfl D1 rfl Z 37 hBh (by rw [lD1]; exact Trym.size37) (by omega) oD1 ?_))
  intro w14 hBh14 hgr14
  have hb14 : Below w12.heap.size w12 w14 := (grownBelow hgr13).grown hgr14 hgr13.size (fun k hk => by cases hk; exact hgh)
  have eD1 : putL Z 0 D1 = D1 := putL_whole hZl lD1
  rw [eD1] at hBh14
  replace hB1 := hB1.all hb14
  replace hB2 := hB2.all hb14
  replace hmu := hmu.all hb14
  replace hmv := hmv.all hb14
  replace hBb8 := hBb8.all hb14
  replace hBv10 := hBv10.all hb14
  replace hBf12 := hBf12.all hb14
  replace hbel := hbel.trans (hb14.mono hbel.size)
  clear hb14 hgr13 hgr14 hBh hgh eD1 dD1 hBb13
  obtain ⟨t, ht⟩ : ∃ t, (zs == ys) = t := ⟨_, rfl⟩
  have ht2 : (ys == zs) = t := by rw [← ht, Bool.beq_comm]
  have HT : Hid ((zs == ys) = t) := ht
  have HT2 : Hid ((ys == zs) = t) := ht2
  clear ht ht2
  cases t
  all_goals
    go_wp2_with (first
      | (with_reducible show wpList _ _ _ (Oper.mk _ (Op.load 22 (Operand.tmp 6)) _ _ _ _ :: _) _ _; refine wpList_loadB rfl 22 _ rfl g1 0 rfl _ 22 32 hB1 _ Trym.underlying22 rfl Trym.size22 (by simp [hu]) ?_; rw [d0u]) | fail)
    have J1 := zzjudge_any us zs ys gb gf r D1 D2 mu mv w14 hu hBb8 hBf12 lD2 mD1 mD2 hmu hmv pD2 hz hy _ HT.out
    refine J1.mono ?_
    clear J1
    rintro e w15 ⟨rfl, hb15⟩
    replace hB2 := hB2.all hb15
    replace hmu := hmu.all hb15
    replace hmv := hmv.all hb15
    replace hBv10 := hBv10.all hb15
    replace hBh14 := hBh14.all hb15
    replace hbel := hbel.trans (hb15.mono hbel.size)
    clear hb15 hB1 hBb8 hBf12 d0u
    go_wp2_with (first
      | (with_reducible show wpList _ _ _ (Oper.mk _ (Op.load 22 (Operand.tmp 7)) _ _ _ _ :: _) _ _; refine wpList_loadB rfl 22 _ rfl g2 0 rfl _ 22 32 hB2 _ Trym.underlying22 rfl Trym.size22 (by simp [hv]) ?_; rw [d0v]) | fail)
    have J2 := zzjudge_any vs ys zs gv gh r D2 D1 mv mu w15 hv hBv10 hBh14 lD1 mD2 mD1 hmv hmu pD1 hy hz _ HT2.out
    refine J2.mono ?_
    clear J2
    rintro e w16 ⟨rfl, hb16⟩
    replace hmu := hmu.all hb16
    replace hmv := hmv.all hb16
    replace hbel := hbel.trans (hb16.mono hbel.size)
    clear hb16 hB2 hBv10 hBh14 d0v
    go_wp2_with fail
    have S := same_bytes mu mv zs ys w16 hmu hmv (by omega)
    rw [HT.out] at S
    refine S.mono ?_
    clear S
    rintro e w17 ⟨rfl, m, rfl⟩
    go_wp2
    go_ret
    exact ⟨rfl, hbel.trans (drewBelow _ _ _)⟩

set_option maxHeartbeats 1600000 in
theorem law_big (us vs ts : List Int) (hu : us.length = 32) (hv : vs.length = 32) (hts : ts.length = 32) (a2 a3 : Option Addr) (n2 c2 n3 c3 : Nat) (r : Int) (w : World) (hn : 1048576 < n2 + n3) (l2 : n2 ≤ 140737488355328) (l3 : n3 ≤ 140737488355328) :
    Calls Trym.prog 4 #[.agg (us.map (Value.int .u8)).toArray, .agg (vs.map (Value.int .u8)).toArray, .slice a2 n2 c2, .slice a3 n3 c3, .int .u64 r, .agg (ts.map (Value.int .u8)).toArray] w fun e w' =>
      e = .returned (.bool true) ∧ Below w.heap.size w w' := by
  have d0u := drop0 us hu
  have d0v := drop0 vs hv
  have d0t := drop0 ts hts
  go_enter Trym.func4, Trym.ntmps4
  go_wp2_with (first | (with_reducible show wpList _ _ _ (Oper.mk _ (Op.box 22 (Operand.tmp 0)) _ _ _ _ :: _) _ _; refine wpList_boxB rfl 22 _ rfl _ (us.map (Value.int .u8)) rfl rfl ?_) | fail)
  intro g1 w1 hg1 hB1 hgr1
  go_wp2_with (first | (with_reducible show wpList _ _ _ (Oper.mk _ (Op.box 22 (Operand.tmp 1)) _ _ _ _ :: _) _ _; refine wpList_boxB rfl 22 _ rfl _ (vs.map (Value.int .u8)) rfl rfl ?_) | fail)
  intro g2 w2 hg2 hB2 hgr2
  go_wp2_with (first | (with_reducible show wpList _ _ _ (Oper.mk _ (Op.box 22 (Operand.tmp 5)) _ _ _ _ :: _) _ _; refine wpList_boxB rfl 22 _ rfl _ (ts.map (Value.int .u8)) rfl rfl ?_) | fail)
  intro g3 w3 hg3 hB3 hgr3
  have hb2 := (grownBelow hgr1).trans ((grownBelow hgr2).mono hgr1.size)
  have hbel := hb2.trans ((grownBelow hgr3).mono hb2.size)
  replace hB1 := (hB1.kept hgr2).kept hgr3
  replace hB2 := hB2.kept hgr3
  clear hgr1 hgr2 hgr3 hb2 hg1 hg2 hg3
  go_wp2_with (first
    | (with_reducible show wpList _ _ _ (Oper.mk _ (Op.load 22 (Operand.tmp 6)) _ _ _ _ :: _) _ _; refine wpList_loadB rfl 22 _ rfl g1 0 rfl _ 22 32 hB1 _ Trym.underlying22 rfl Trym.size22 (by simp [hu]) ?_; rw [d0u])
    | (with_reducible show wpList _ _ _ (Oper.mk _ (Op.load 22 (Operand.tmp 7)) _ _ _ _ :: _) _ _; refine wpList_loadB rfl 22 _ rfl g2 0 rfl _ 22 32 hB2 _ Trym.underlying22 rfl Trym.size22 (by simp [hv]) ?_; rw [d0v])
    | (with_reducible show wpList _ _ _ (Oper.mk _ (Op.load 22 (Operand.tmp 11)) _ _ _ _ :: _) _ _; refine wpList_loadB rfl 22 _ rfl g3 0 rfl _ 22 32 hB3 _ Trym.underlying22 rfl Trym.size22 (by simp [hts]) ?_; rw [d0t]))
  refine (zzbytes_any us vs ts a2 a3 n2 c2 n3 c3 r w3 false l2 l3 (by simp; omega)).mono ?_
  rintro e w4 ⟨rfl, hb4⟩
  go_wp2
  go_ret
  exact ⟨rfl, hbel.trans (hb4.mono hbel.size)⟩

/-- The clone of whatever came in. -/
theorem clone_row (a0 : Option Addr) (len cap : Nat) (zs : List Int) (w : World) (hlen : len ≤ 1048576)
    (h : (a0 = none ∧ len = 0 ∧ cap = 0 ∧ zs = []) ∨ ∃ x, a0 = some x ∧ len ≤ cap ∧ cap ≤ maxLen ∧ zs.length = cap ∧ (∀ i, i < zs.length → w.cell? (x.add i) = some (.int .u8 (zs.getD i 0))) ∧ ∀ n ∈ zs, (Lit.int .u8 n).wf = true) :
    ∀ w1, Below w.heap.size w w1 → Calls Trym.prog 9 #[.slice a0 len cap] w1 fun e w' => ∃ v, e = .returned v ∧ Bytes w' v (zs.take len) ∧ Below w1.heap.size w1 w' := by
  intro w1 hb
  rcases h with ⟨rfl, rfl, rfl, rfl⟩ | ⟨x, rfl, hlc, _, hz, hcell, _⟩
  · exact clone_nil w1
  · by_cases h0 : len = 0
    · subst h0
      simpa using clone_empty x cap w1
    · have hc1 := hcell 0 (by omega)
      obtain ⟨b, off, spot⟩ := x
      have hspot : spot = none := by simpa [Addr.add] using World.cell?_spot hc1
      subst hspot
      have hbw : b < w.heap.size := World.block_lt_of_cell? w _ (by simpa [Addr.add] using hc1)
      refine clone_any b off len cap zs w1 hlen (by omega) (Nat.lt_of_lt_of_le hbw hb.size) ?_
      intro j hj
      have := hcell j (by omega)
      rw [Addr.add_lit] at this
      exact (hb.cell (by exact hbw)).trans this

/-- An array of bytes by value, opened. -/
theorem open_arr {H : Type} {enc : TypeId × Value → H} {W : World} {base b0 : Nat} {sp : Nat → Bool} {held : Bool} {v : Value} {d : DataW H} {ps : List MemPlace} {r : Reach} (hv : Value.okWide Trym.prog W r b0 22 v) (hd : DataW.Trod enc Trym.prog W base sp held 22 v d ps) :
    ∃ us : List Int, us.length = 32 ∧ v = .agg (us.map (Value.int .u8)).toArray := by
  have h22 := Trym.underlying22
  have c22 : Trym.prog.cellsOf 22 = 32 := by kernel_rfl
  have c5 : Trym.prog.cellsOf 5 = 1 := by kernel_rfl
  simp only [Value.okWide, h22] at hv
  obtain ⟨cs, rfl, h2, _⟩ := hv
  obtain ⟨fuel, hf⟩ := hd
  obtain ⟨xs, m, _, _, hl, hxl, hx⟩ := DataW.trod_array h22 hf
  rw [c22] at h2
  refine ⟨cs.toList.map intOf, by simpa using h2, ?_⟩
  congr 1
  apply Array.toList_inj.1
  simp only [List.map_map]
  symm
  apply List.ext_getElem
  · simp
  · intro i h1 h3
    simp only [List.getElem_map, Function.comp]
    have hi : i < 32 := by simp at h3; omega
    have := hx i hi
    rw [c5, Nat.mul_one] at this
    have hxi : i < xs.length := by omega
    rw [List.getElem?_eq_getElem hxi] at this
    obtain ⟨n, hn, _⟩ := DataW.trod_int Trym.underlying5 this
    have e : ((Value.agg cs).cells.toList.drop i).take 1 = [cs.toList[i]] := by
      show (cs.toList.drop i).take 1 = _
      rw [List.drop_eq_getElem_cons (by simpa using h3)]
      simp
    rw [e] at hn
    simp only [List.cons.injEq, and_true] at hn
    rw [hn]
    rfl
end Go.Proofs.Qxb6000998aMods.J
