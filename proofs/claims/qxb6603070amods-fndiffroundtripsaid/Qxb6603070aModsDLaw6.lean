import Derived.Test.Qxb6603070aModsDGuard
import Derived.Test.Qxb6603070aModsDDiff
import Derived.Test.Qxb6603070aModsDSet
import Derived.Test.Qxb6603070aModsDSame
import Derived.Test.Qxb6603070aModsDLocs
namespace Go.Proofs.Qxb6603070aMods.M
open Go.RowKit Go.Proofs.Qxb6603070aMods.L

/-- An operation under a guard, let, that yields a value. -/
theorem wpList_valG {P : Program} {ops : Array Oper} {rest : List Oper} {o : Oper} {a : Act} {w : World} {Q : Exit → Act → World → Prop} (hw : Region.wanted o (yielded ops a.tmps) = true) {v : Value} {w' : World} (h : (execOp a.eval o).run P w = .ok (.value v) w') (k : wpList P ops Q rest (a.put o.dst v) w') : wpList P ops Q (o :: rest) a w := by
  unfold wpList
  rw [if_pos hw]
  left
  unfold Oper.wp
  rw [h]
  exact k

set_option maxRecDepth 100000 in
set_option maxHeartbeats 32000000 in
/-- FnDiffRoundTrip. -/
theorem law6_any (a0 a1 a2 a3 : Option Addr) (c0 c1 c2 c3 : Nat) (s0 s1 s2 s3 : List ByteArray) (w : World) (h0 : At w a0 s0) (h1 : At w a1 s1) (h2 : At w a2 s2) (h3 : At w a3 s3)
    (hn0 : a0 = none → s0 = [] ∧ c0 = 0) (hn1 : a1 = none → s1 = [] ∧ c1 = 0) (hn2 : a2 = none → s2 = [] ∧ c2 = 0) (hn3 : a3 = none → s3 = [] ∧ c3 = 0) :
    Calls Trym.prog 6 #[.slice a0 s0.length c0, .slice a1 s1.length c1, .slice a2 s2.length c2, .slice a3 s3.length c3] w fun e w' => e = .returned (.bool true) ∧ Below w.heap.size w w' := by
  have HA0 : Hid (At w a0 s0) := h0
  have HN0 : Hid (a0 = none → s0 = [] ∧ c0 = 0) := hn0
  have HA1 : Hid (At w a1 s1) := h1
  have HN1 : Hid (a1 = none → s1 = [] ∧ c1 = 0) := hn1
  have HA2 : Hid (At w a2 s2) := h2
  have HN2 : Hid (a2 = none → s2 = [] ∧ c2 = 0) := hn2
  have HA3 : Hid (At w a3 s3) := h3
  have HN3 : Hid (a3 = none → s3 = [] ∧ c3 = 0) := hn3
  clear h0 h1 h2 h3 hn0 hn1 hn2 hn3
  go_enter Trym.func6, Trym.ntmps6
  go_wp2_with fail
  refine (guard4_any a0 a1 a2 a3 c0 c1 c2 c3 s0 s1 s2 s3 w HA0.out HA1.out HA2.out HA3.out).mono ?_
  rintro e w ⟨t, rfl, rfl⟩
  cases t with
  | false =>
    go_wp2
    go_ret
    exact ⟨rfl, Below.refl _ _⟩
  | true =>
    go_wp2_with fail
    refine (addBytes_acc 0 a0 c0 s0 w HA0.out (by omega)).mono ?_
    rintro e w ⟨r0, rfl, rfl, hr0, ht⟩
    have HT0 : Hid (r0 ≤ 1048576 → s0.length ≤ 65536 ∧ 0 ≤ 1048576) := ht
    clear ht
    go_wp2_with fail
    refine (addBytes_acc r0 a1 c1 s1 w HA1.out hr0).mono ?_
    rintro e w ⟨r1, rfl, rfl, hr1, ht⟩
    have HT1 : Hid (r1 ≤ 1048576 → s1.length ≤ 65536 ∧ r0 ≤ 1048576) := ht
    clear ht
    go_wp2_with fail
    refine (addBytes_acc r1 a2 c2 s2 w HA2.out hr1).mono ?_
    rintro e w ⟨r2, rfl, rfl, hr2, ht⟩
    have HT2 : Hid (r2 ≤ 1048576 → s2.length ≤ 65536 ∧ r1 ≤ 1048576) := ht
    clear ht
    go_wp2_with fail
    refine (addBytes_acc r2 a3 c3 s3 w HA3.out hr2).mono ?_
    rintro e w ⟨r3, rfl, rfl, hr3, ht⟩
    have HT3 : Hid (r3 ≤ 1048576 → s3.length ≤ 65536 ∧ r2 ≤ 1048576) := ht
    clear ht
    by_cases hbig : 1048576 < r3
    · have hd : decide ((1048576 : Int) < (r3 : Int)) = true := decide_eq_true (by omega)
      clear hbig
      go_wp2
      go_ret
      exact ⟨rfl, Below.refl _ _⟩
    · have hd : decide ((1048576 : Int) < (r3 : Int)) = false := decide_eq_false (by omega)
      have hl3 : s3.length ≤ 65536 := (HT3.out (by omega)).1
      have hl2 : s2.length ≤ 65536 := (HT2.out (HT3.out (by omega)).2).1
      have hl1 : s1.length ≤ 65536 := (HT1.out (HT2.out (HT3.out (by omega)).2).2).1
      have hl0 : s0.length ≤ 65536 := (HT0.out (HT1.out (HT2.out (HT3.out (by omega)).2).2).2).1
      clear hbig hr0 hr1 hr2 hr3 HT0 HT1 HT2 HT3
      by_cases he1 : s0.length = s1.length
      · have HE1 : Hid (s0.length = s1.length) := he1
        have hd1 : ((s0.length : Int) != (s1.length : Int)) = false := by simp [he1]
        clear he1
        by_cases he2 : s2.length = s3.length
        · have HE2 : Hid (s2.length = s3.length) := he2
          have hd2 : ((s2.length : Int) != (s3.length : Int)) = false := by simp [he2]
          clear he2
          have hbw : Below w.heap.size w w := Below.refl _ _
          go_wp2_with fail
          refine (clone_any a0 c0 s0 w hl0 HA0.out HN0.out).mono ?_
          rintro e y0 ⟨b0, rfl, hS0, hbc⟩
          replace hbw : Below w.heap.size w y0 := hbw.trans (hbc.mono hbw.size)
          clear hbc
          go_wp2_with fail
          refine (clone_any a1 c1 s1 y0 hl1 (HA1.out.below hbw) HN1.out).mono ?_
          rintro e y1 ⟨b1, rfl, hS1, hbc⟩
          replace hS0 := hS0.all hbc
          replace hbw : Below w.heap.size w y1 := hbw.trans (hbc.mono hbw.size)
          clear hbc
          go_wp2_with fail
          refine (clone_any a2 c2 s2 y1 hl2 (HA2.out.below hbw) HN2.out).mono ?_
          rintro e y2 ⟨b2, rfl, hS2, hbc⟩
          replace hS0 := hS0.all hbc
          replace hS1 := hS1.all hbc
          replace hbw : Below w.heap.size w y2 := hbw.trans (hbc.mono hbw.size)
          clear hbc
          go_wp2_with fail
          refine (clone_any a3 c3 s3 y2 hl3 (HA3.out.below hbw) HN3.out).mono ?_
          rintro e y3 ⟨b3, rfl, hS3, hbc⟩
          replace hS0 := hS0.all hbc
          replace hS1 := hS1.all hbc
          replace hS2 := hS2.all hbc
          replace hbw : Below w.heap.size w y3 := hbw.trans (hbc.mono hbw.size)
          clear hbc
          clear HA0 HA1 HA2 HA3 HN0 HN1 HN2 HN3
          obtain ⟨O, hOe⟩ : ∃ O, O = s0.zip s1 := ⟨_, rfl⟩
          obtain ⟨N, hNe⟩ : ∃ N, N = s2.zip s3 := ⟨_, rfl⟩
          have hOl : O.length = s0.length := by rw [hOe, List.length_zip]; have := HE1.out; omega
          have hNl : N.length = s2.length := by rw [hNe, List.length_zip]; have := HE2.out; omega
          go_wp2_with fail
          refine (pairs_any b0 b1 s0 s1 y3 hl0 HE1.out.symm hS0 hS1).mono ?_
          rintro e x2 ⟨pO, rfl, hPO, hb2⟩
          replace hS0 := hS0.all hb2
          replace hS1 := hS1.all hb2
          replace hS2 := hS2.all hb2
          replace hS3 := hS3.all hb2
          replace hbw : Below w.heap.size w x2 := hbw.trans (hb2.mono hbw.size)
          clear hb2
          go_wp2_with fail
          refine (pairs_any b2 b3 s2 s3 x2 hl2 HE2.out.symm hS2 hS3).mono ?_
          rintro e x3 ⟨pN, rfl, hPN, hb3⟩
          replace hS0 := hS0.all hb3
          replace hS1 := hS1.all hb3
          replace hS2 := hS2.all hb3
          replace hS3 := hS3.all hb3
          replace hPO := hPO.all hb3
          replace hbw : Below w.heap.size w x3 := hbw.trans (hb3.mono hbw.size)
          clear hb3
          go_wp2_with fail
          refine (locs_any b0 b1 s0 s1 x3 hl0 HE1.out.symm hS0 hS1).mono ?_
          rintro e x4 ⟨lO, rfl, hLO, hb4⟩
          replace hS0 := hS0.all hb4
          replace hS1 := hS1.all hb4
          replace hS2 := hS2.all hb4
          replace hS3 := hS3.all hb4
          replace hPO := hPO.all hb4
          replace hPN := hPN.all hb4
          replace hbw : Below w.heap.size w x4 := hbw.trans (hb4.mono hbw.size)
          clear hb4
          go_wp2_with fail
          refine (locs_any b2 b3 s2 s3 x4 hl2 HE2.out.symm hS2 hS3).mono ?_
          rintro e x5 ⟨lN, rfl, hLN, hb5⟩
          replace hS0 := hS0.all hb5
          replace hS1 := hS1.all hb5
          replace hS2 := hS2.all hb5
          replace hS3 := hS3.all hb5
          replace hPO := hPO.all hb5
          replace hPN := hPN.all hb5
          replace hLO := hLO.all hb5
          replace hbw : Below w.heap.size w x5 := hbw.trans (hb5.mono hbw.size)
          clear hb5
          clear hS0
          clear hS1
          clear hS2
          clear hS3
          rw [← hOe] at hPO hLO
          rw [← hNe] at hPN hLN
          clear hOe hNe
          have HOl : Hid (O.length = s0.length) := hOl
          have HNl : Hid (N.length = s2.length) := hNl
          clear hOl hNl
          have hO0 := Src.of hPO
          have hN0 := Src.of hPN
          have hQO := Src.of hLO
          have hQN := Src.of hLN
          clear hPO hPN hLO hLN
          go_wp2_with fail
          have hcall := zzDiff_any lO lN O.length N.length O N x5 (by rw [HOl.out]; exact hl0) (by rw [HNl.out]; exact hl2) hQO hQN
          rw [HOl.out, HNl.out] at hcall
          refine hcall.mono ?_
          clear hcall
          rintro e x6 ⟨a4, d4, a5, d5, rfl, hA, hD, hb6⟩
          replace hO0 := hO0.all hb6
          replace hN0 := hN0.all hb6
          replace hQO := hQO.all hb6
          replace hQN := hQN.all hb6
          replace hbw : Below w.heap.size w x6 := hbw.trans (hb6.mono hbw.size)
          clear hb6
          clear hQO
          clear hQN
          obtain ⟨A, hAe⟩ : ∃ A, A = minus N O := ⟨_, rfl⟩
          obtain ⟨D, hDe⟩ : ∃ D, D = minus O N := ⟨_, rfl⟩
          have hAl : A.length ≤ 65536 := by rw [hAe]; exact Nat.le_trans (minus_le _ _) (by rw [HNl.out]; exact hl2)
          have hDl : D.length ≤ 65536 := by rw [hDe]; exact Nat.le_trans (minus_le _ _) (by rw [HOl.out]; exact hl0)
          have HAE : Hid (A = minus N O) := hAe
          have HDE : Hid (D = minus O N) := hDe
          rw [← hAe] at hA ⊢
          rw [← hDe] at hD ⊢
          clear hAe hDe
          go_wp2_with fail
          refine (pairsOfLocs_any a4 d4 A x6 (by omega) hA).mono ?_
          rintro e x7 ⟨pA, rfl, hPA, hb7⟩
          replace hO0 := hO0.all hb7
          replace hN0 := hN0.all hb7
          replace hA := hA.all hb7
          replace hD := hD.all hb7
          replace hbw : Below w.heap.size w x7 := hbw.trans (hb7.mono hbw.size)
          clear hb7
          go_wp2_with fail
          refine (pairsOfLocs_any a5 d5 D x7 (by omega) hD).mono ?_
          rintro e x8 ⟨pD, rfl, hPD, hb8⟩
          replace hO0 := hO0.all hb8
          replace hN0 := hN0.all hb8
          replace hA := hA.all hb8
          replace hD := hD.all hb8
          replace hPA := hPA.all hb8
          replace hbw : Below w.heap.size w x8 := hbw.trans (hb8.mono hbw.size)
          clear hb8
          clear hA
          clear hD
          have hA0 := Src.of hPA
          have hD0 := Src.of hPD
          clear hPA hPD
          go_wp2_with fail
          have hcall := setOf_any pO O.length O x8 (by rw [HOl.out]; omega) hO0
          rw [HOl.out] at hcall
          refine hcall.mono ?_
          clear hcall
          rintro e x9 ⟨a6, d6, So, rfl, hSo, hIo, hb9⟩
          replace hO0 := hO0.all hb9
          replace hN0 := hN0.all hb9
          replace hA0 := hA0.all hb9
          replace hD0 := hD0.all hb9
          replace hbw : Below w.heap.size w x9 := hbw.trans (hb9.mono hbw.size)
          clear hb9
          have HKO : Hid (IsSet O So) := hIo
          have hSol : So.length ≤ 65536 := Nat.le_trans hIo.2.2 (by rw [HOl.out]; exact hl0)
          clear hIo
          go_wp2_with fail
          have hcall := setOf_any pN N.length N x9 (by rw [HNl.out]; omega) hN0
          rw [HNl.out] at hcall
          refine hcall.mono ?_
          clear hcall
          rintro e x10 ⟨a7, d7, Sn, rfl, hSn, hIn, hb10⟩
          replace hO0 := hO0.all hb10
          replace hN0 := hN0.all hb10
          replace hA0 := hA0.all hb10
          replace hD0 := hD0.all hb10
          replace hSo := hSo.all hb10
          replace hbw : Below w.heap.size w x10 := hbw.trans (hb10.mono hbw.size)
          clear hb10
          have HIN : Hid (IsSet N Sn) := hIn
          have hSnl : Sn.length ≤ 65536 := Nat.le_trans hIn.2.2 (by rw [HNl.out]; exact hl2)
          clear hIn
          go_wp2
          go_loopw [17] (fun iv wr => ∃ k : Nat, k ≤ A.length ∧ iv = .int .i64 k ∧ Below x10.heap.size x10 wr)
            (fun iv _ => A.length - (intOf iv).toNat)
          case atStart => exact ⟨0, Nat.zero_le _, rfl, Below.refl _ _⟩
          case round =>
            obtain ⟨k, hk, rfl, hbr⟩ := hrel
            by_cases hlt : k < A.length
            · obtain ⟨fs, hfs⟩ := struct43
              obtain ⟨p, hp⟩ : ∃ p, A[k]? = some p := ⟨_, List.getElem?_eq_getElem hlt⟩
              have hpA : p ∈ A := List.mem_of_getElem? hp
              rw [HAE.out, mem_minus] at hpA
              have HNO : Hid (inS So p = false) := inS_no (fun h => hpA.2 ((HKO.out.2.1 p).1 h))
              have HYES : Hid (inS Sn p = true) := inS_iff.2 ((HIN.out.2.1 p).2 hpA.1)
              obtain ⟨g, hge, hra⟩ := hA0.at hp
              have HRA : Hid (∀ w', Below x10.heap.size x10 w' → w'.rangeAt g (k * 2) (pc p)) := hra
              subst hge
              clear hp hra hpA
              go_wp2_with (first
                | ((with_reducible show wpList _ _ _ (Oper.mk _ (Op.load 43 _) _ _ _ _ :: _) _ _); refine wpList_val rfl (exec_loadB 43 _ rfl g (k * 2) rfl (pc p) (HRA.out _ hbr) _ hfs rfl (by rw [pc_length]; exact Trym.size43)) ?_)
                | fail)
              refine (contains_any a6 d6 So p wr (by omega) (hSo.all hbr) HKO.out.1).mono ?_
              rintro e wq ⟨rfl, hbq⟩
              rw [HNO.out]
              replace hbq : Below x10.heap.size x10 wq := hbr.trans (hbq.mono hbr.size)
              clear hbr
              go_wp2_with (first
                | ((with_reducible show wpList _ _ _ (Oper.mk _ (Op.load 43 _) _ _ _ _ :: _) _ _); refine wpList_valG rfl (exec_loadB 43 _ rfl g (k * 2) rfl (pc p) (HRA.out _ hbq) _ hfs rfl (by rw [pc_length]; exact Trym.size43)) ?_)
                | fail)
              refine (contains_any a7 d7 Sn p wq (by omega) (hSn.all hbq) HIN.out.1).mono ?_
              rintro e wz ⟨rfl, hbz⟩
              rw [HYES.out]
              replace hbz : Below x10.heap.size x10 wz := hbq.trans (hbz.mono hbq.size)
              clear hbq
              go_wp2
              go_roundw
              case rel => exact ⟨k + 1, by omega, by go_num, hbz⟩
              case measure => simp [intOf]; omega
            · obtain rfl : k = A.length := by omega
              obtain ⟨x10n, rfl⟩ : ∃ v : World, v = wr := ⟨_, rfl⟩
              replace hO0 := hO0.all hbr
              replace hN0 := hN0.all hbr
              replace hA0 := hA0.all hbr
              replace hD0 := hD0.all hbr
              replace hSo := hSo.all hbr
              replace hSn := hSn.all hbr
              replace hbw : Below w.heap.size w x10n := hbw.trans (hbr.mono hbw.size)
              clear hbr hk hlt
              go_wp2
              go_loopw [18] (fun iv wr => ∃ k : Nat, k ≤ D.length ∧ iv = .int .i64 k ∧ Below x10n.heap.size x10n wr)
                (fun iv _ => D.length - (intOf iv).toNat)
              case atStart => exact ⟨0, Nat.zero_le _, rfl, Below.refl _ _⟩
              case round =>
                obtain ⟨k, hk, rfl, hbr⟩ := hrel
                by_cases hlt : k < D.length
                · obtain ⟨fs, hfs⟩ := struct43
                  obtain ⟨p, hp⟩ : ∃ p, D[k]? = some p := ⟨_, List.getElem?_eq_getElem hlt⟩
                  have hpA : p ∈ D := List.mem_of_getElem? hp
                  rw [HDE.out, mem_minus] at hpA
                  have HNO : Hid (inS Sn p = false) := inS_no (fun h => hpA.2 ((HIN.out.2.1 p).1 h))
                  have HYES : Hid (inS So p = true) := inS_iff.2 ((HKO.out.2.1 p).2 hpA.1)
                  obtain ⟨g, hge, hra⟩ := hD0.at hp
                  have HRA : Hid (∀ w', Below x10n.heap.size x10n w' → w'.rangeAt g (k * 2) (pc p)) := hra
                  subst hge
                  clear hp hra hpA
                  go_wp2_with (first
                    | ((with_reducible show wpList _ _ _ (Oper.mk _ (Op.load 43 _) _ _ _ _ :: _) _ _); refine wpList_val rfl (exec_loadB 43 _ rfl g (k * 2) rfl (pc p) (HRA.out _ hbr) _ hfs rfl (by rw [pc_length]; exact Trym.size43)) ?_)
                    | fail)
                  refine (contains_any a7 d7 Sn p wr (by omega) (hSn.all hbr) HIN.out.1).mono ?_
                  rintro e wq ⟨rfl, hbq⟩
                  rw [HNO.out]
                  replace hbq : Below x10n.heap.size x10n wq := hbr.trans (hbq.mono hbr.size)
                  clear hbr
                  go_wp2_with (first
                    | ((with_reducible show wpList _ _ _ (Oper.mk _ (Op.load 43 _) _ _ _ _ :: _) _ _); refine wpList_valG rfl (exec_loadB 43 _ rfl g (k * 2) rfl (pc p) (HRA.out _ hbq) _ hfs rfl (by rw [pc_length]; exact Trym.size43)) ?_)
                    | fail)
                  refine (contains_any a6 d6 So p wq (by omega) (hSo.all hbq) HKO.out.1).mono ?_
                  rintro e wz ⟨rfl, hbz⟩
                  rw [HYES.out]
                  replace hbz : Below x10n.heap.size x10n wz := hbq.trans (hbz.mono hbq.size)
                  clear hbq
                  go_wp2
                  go_roundw
                  case rel => exact ⟨k + 1, by omega, by go_num, hbz⟩
                  case measure => simp [intOf]; omega
                · obtain rfl : k = D.length := by omega
                  obtain ⟨x10nn, rfl⟩ : ∃ v : World, v = wr := ⟨_, rfl⟩
                  replace hO0 := hO0.all hbr
                  replace hN0 := hN0.all hbr
                  replace hA0 := hA0.all hbr
                  replace hD0 := hD0.all hbr
                  replace hSo := hSo.all hbr
                  replace hSn := hSn.all hbr
                  replace hbw : Below w.heap.size w x10nn := hbw.trans (hbr.mono hbw.size)
                  clear hbr hk hlt
                  go_wp2_with fail
                  refine (setOf_any pD D.length D x10nn (by omega) hD0).mono ?_
                  rintro e x11 ⟨a8, d8, S8, rfl, hS8, hI8, hb11⟩
                  replace hO0 := hO0.all hb11
                  replace hN0 := hN0.all hb11
                  replace hA0 := hA0.all hb11
                  replace hD0 := hD0.all hb11
                  replace hSo := hSo.all hb11
                  replace hSn := hSn.all hb11
                  replace hbw : Below w.heap.size w x11 := hbw.trans (hb11.mono hbw.size)
                  clear hb11
                  have HI8 : Hid (IsSet D S8) := hI8
                  have hS8l : S8.length ≤ 65536 := Nat.le_trans hI8.2.2 hDl
                  clear hI8
                  go_wp2_with fail
                  have hcall := filterOut_any pO a8 O.length d8 O S8 x11 (by rw [HOl.out]; omega) (by omega) hO0 hS8 HI8.out.1
                  rw [HOl.out] at hcall
                  refine hcall.mono ?_
                  clear hcall
                  rintro e x12 ⟨a9, d9, rfl, hF1, hb12⟩
                  replace hO0 := hO0.all hb12
                  replace hN0 := hN0.all hb12
                  replace hA0 := hA0.all hb12
                  replace hD0 := hD0.all hb12
                  replace hSo := hSo.all hb12
                  replace hSn := hSn.all hb12
                  replace hS8 := hS8.all hb12
                  replace hbw : Below w.heap.size w x12 := hbw.trans (hb12.mono hbw.size)
                  clear hb12
                  have hM1 : (minus O S8).length ≤ 65536 := Nat.le_trans (minus_le _ _) (by rw [HOl.out]; exact hl0)
                  go_wp2_with fail
                  refine (appendPairs_any a9 pA d9 A.length (minus O S8) A x12 (by omega) hF1 hA0).mono ?_
                  rintro e x13 ⟨a10, d10, rfl, hF, hb13⟩
                  replace hO0 := hO0.all hb13
                  replace hN0 := hN0.all hb13
                  replace hA0 := hA0.all hb13
                  replace hD0 := hD0.all hb13
                  replace hSo := hSo.all hb13
                  replace hSn := hSn.all hb13
                  replace hS8 := hS8.all hb13
                  replace hF1 := hF1.all hb13
                  replace hbw : Below w.heap.size w x13 := hbw.trans (hb13.mono hbw.size)
                  clear hb13
                  obtain ⟨F, hFe⟩ : ∃ F, F = minus O S8 ++ A := ⟨_, rfl⟩
                  have hFl : F.length ≤ 131072 := by rw [hFe, List.length_append]; omega
                  have HFE : Hid (F = minus O S8 ++ A) := hFe
                  rw [← hFe] at hF ⊢
                  clear hFe
                  clear hS8
                  clear hF1
                  go_wp2_with fail
                  refine (setOf_any a10 d10 F x13 (by omega) hF).mono ?_
                  rintro e x14 ⟨a11, d11, S1, rfl, hS1, hI1, hb14⟩
                  replace hO0 := hO0.all hb14
                  replace hN0 := hN0.all hb14
                  replace hA0 := hA0.all hb14
                  replace hD0 := hD0.all hb14
                  replace hSo := hSo.all hb14
                  replace hSn := hSn.all hb14
                  replace hF := hF.all hb14
                  replace hbw : Below w.heap.size w x14 := hbw.trans (hb14.mono hbw.size)
                  clear hb14
                  clear hF
                  obtain rfl : S1 = Sn := round_trip (by rw [← HDE.out]; exact HI8.out) (by rw [← HAE.out]; exact HFE.out) hI1 HIN.out
                  clear hI1
                  go_wp2_with fail
                  refine (samePairs_any a11 a7 d11 d7 S1 x14 (by omega) hS1 hSn).mono ?_
                  rintro e x15 ⟨rfl, hb15⟩
                  replace hO0 := hO0.all hb15
                  replace hN0 := hN0.all hb15
                  replace hA0 := hA0.all hb15
                  replace hD0 := hD0.all hb15
                  replace hSo := hSo.all hb15
                  replace hSn := hSn.all hb15
                  replace hS1 := hS1.all hb15
                  replace hbw : Below w.heap.size w x15 := hbw.trans (hb15.mono hbw.size)
                  clear hb15
                  clear hS1
                  go_wp2_with fail
                  refine (setOf_any pA A.length A x15 (by omega) hA0).mono ?_
                  rintro e x16 ⟨a12, d12, S9, rfl, hS9, hI9, hb16⟩
                  replace hO0 := hO0.all hb16
                  replace hN0 := hN0.all hb16
                  replace hA0 := hA0.all hb16
                  replace hD0 := hD0.all hb16
                  replace hSo := hSo.all hb16
                  replace hSn := hSn.all hb16
                  replace hbw : Below w.heap.size w x16 := hbw.trans (hb16.mono hbw.size)
                  clear hb16
                  have HI9 : Hid (IsSet A S9) := hI9
                  have hS9l : S9.length ≤ 65536 := Nat.le_trans hI9.2.2 hAl
                  clear hI9
                  go_wp2_with fail
                  have hcall := filterOut_any pN a12 N.length d12 N S9 x16 (by rw [HNl.out]; omega) (by omega) hN0 hS9 HI9.out.1
                  rw [HNl.out] at hcall
                  refine hcall.mono ?_
                  clear hcall
                  rintro e x17 ⟨a13, d13, rfl, hG1, hb17⟩
                  replace hO0 := hO0.all hb17
                  replace hN0 := hN0.all hb17
                  replace hA0 := hA0.all hb17
                  replace hD0 := hD0.all hb17
                  replace hSo := hSo.all hb17
                  replace hSn := hSn.all hb17
                  replace hS9 := hS9.all hb17
                  replace hbw : Below w.heap.size w x17 := hbw.trans (hb17.mono hbw.size)
                  clear hb17
                  have hM2 : (minus N S9).length ≤ 65536 := Nat.le_trans (minus_le _ _) (by rw [HNl.out]; exact hl2)
                  go_wp2_with fail
                  refine (appendPairs_any a13 pD d13 D.length (minus N S9) D x17 (by omega) hG1 hD0).mono ?_
                  rintro e x18 ⟨a14, d14, rfl, hG, hb18⟩
                  replace hO0 := hO0.all hb18
                  replace hN0 := hN0.all hb18
                  replace hA0 := hA0.all hb18
                  replace hD0 := hD0.all hb18
                  replace hSo := hSo.all hb18
                  replace hSn := hSn.all hb18
                  replace hS9 := hS9.all hb18
                  replace hG1 := hG1.all hb18
                  replace hbw : Below w.heap.size w x18 := hbw.trans (hb18.mono hbw.size)
                  clear hb18
                  obtain ⟨G, hGe⟩ : ∃ G, G = minus N S9 ++ D := ⟨_, rfl⟩
                  have hGl : G.length ≤ 131072 := by rw [hGe, List.length_append]; omega
                  have HGE : Hid (G = minus N S9 ++ D) := hGe
                  rw [← hGe] at hG ⊢
                  clear hGe
                  go_wp2_with fail
                  refine (setOf_any a14 d14 G x18 (by omega) hG).mono ?_
                  rintro e x19 ⟨a15, d15, S2, rfl, hS2, hI2, hb19⟩
                  replace hO0 := hO0.all hb19
                  replace hN0 := hN0.all hb19
                  replace hA0 := hA0.all hb19
                  replace hD0 := hD0.all hb19
                  replace hSo := hSo.all hb19
                  replace hSn := hSn.all hb19
                  replace hS9 := hS9.all hb19
                  replace hG1 := hG1.all hb19
                  replace hG := hG.all hb19
                  replace hbw : Below w.heap.size w x19 := hbw.trans (hb19.mono hbw.size)
                  clear hb19
                  obtain rfl : S2 = So := round_trip (by rw [← HAE.out]; exact HI9.out) (by rw [← HDE.out]; exact HGE.out) hI2 HKO.out
                  clear hI2
                  go_wp2_with fail
                  refine (samePairs_any a15 a6 d15 d6 S2 x19 (by omega) hS2 hSo).mono ?_
                  rintro e x20 ⟨rfl, hb20⟩
                  replace hO0 := hO0.all hb20
                  replace hN0 := hN0.all hb20
                  replace hA0 := hA0.all hb20
                  replace hD0 := hD0.all hb20
                  replace hSo := hSo.all hb20
                  replace hSn := hSn.all hb20
                  replace hS9 := hS9.all hb20
                  replace hG1 := hG1.all hb20
                  replace hG := hG.all hb20
                  replace hS2 := hS2.all hb20
                  replace hbw : Below w.heap.size w x20 := hbw.trans (hb20.mono hbw.size)
                  clear hb20
                  go_wp2
                  go_ret
                  exact ⟨rfl, hbw⟩
        · have hd2 : ((s2.length : Int) != (s3.length : Int)) = true := by
            rw [bne_iff_ne]
            omega
          clear he2
          go_wp2
          go_ret
          exact ⟨rfl, Below.refl _ _⟩
      · have hd1 : ((s0.length : Int) != (s1.length : Int)) = true := by
          rw [bne_iff_ne]
          omega
        clear he1
        go_wp2
        go_ret
        exact ⟨rfl, Below.refl _ _⟩
end Go.Proofs.Qxb6603070aMods.M
