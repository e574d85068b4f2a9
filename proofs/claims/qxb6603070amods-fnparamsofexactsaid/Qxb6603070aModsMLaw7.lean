import Derived.Test.Qxb6603070aModsMTop
import Derived.Deep.DeepCutAuto
namespace Go.Proofs.Qxb6603070aMods.M
open Go.RowKit Go.Proofs.Qxb6603070aMods.L

theorem build43 : (Trym.prog.info? 43).map (fun i => (i.zero, i.size)) = some (some (.agg #[.string ByteArray.empty, .string ByteArray.empty]), 2) := by kernel_rfl

theorem exec_not {P : Program} {o : Oper} {a : Act} {w : World} (t : TypeId) (x : Operand) (ho : o.op = .unOp .not t x) (b : Bool) (hx : a.eval x = .bool b) : (execOp a.eval o).run P w = .ok (.value (.bool !b)) w := by
  simp only [execOp, ho, hx]
  simp [Op.unary]
theorem below_drewN (w : World) (n : Nat) : Below w.heap.size w (w.drewN n) := ⟨rfl, rfl, rfl, Nat.le_refl _, fun _ _ => rfl⟩
/-- The groups up to place i. -/
def GR (T : List P2) (c i : Nat) : Prop := Bound T i ∧ c = (keysOf ((T.take i).map (·.1))).length
def RunTo (T : List P2) (i j : Nat) (p0 : P2) : Prop := ∀ k p, i ≤ k → k < j → T[k]? = some p → p.1 = p0.1
theorem GR.start (T : List P2) : GR T 0 0 := ⟨Bound.zero T, rfl⟩
theorem GR.step {T : List P2} (hs : Srt (before true) T) {c i j : Nat} {p0 : P2} (h : GR T c i) (h0 : T[i]? = some p0) (hij : i < j) (hjn : j ≤ T.length) (hrun : RunTo T i j p0) (hend : ∀ q, T[j]? = some q → q.1 ≠ p0.1) : GR T (c + 1) j :=
  ⟨h.1.step hs h0 hij hrun hend, by rw [keys_group h.1 h0 hij hjn hrun, h.2]⟩
theorem GR.named {T W : List P2} (hs : Srt (before true) T) (hS : Same (before true) T W) {c i j : Nat} {p0 : P2} (h : GR T c i) (h0 : T[i]? = some p0) (hij : i < j) (hjn : j ≤ T.length) (hrun : RunTo T i j p0) (hend : ∀ q, T[j]? = some q → q.1 ≠ p0.1) :
    named p0.1 W = (T.drop i).take (j - i) := by
  rw [← same_named hS, run_named h.1 (h.1.step hs h0 hij hrun hend) h0 hij hjn hrun]
theorem RunTo.more {T : List P2} {i j : Nat} {p0 q : P2} (h : RunTo T i j p0) (hq : T[j]? = some q) (e : q.1 = p0.1) : RunTo T i (j + 1) p0 := by
  intro k p h1 h2 h3
  by_cases hk : k = j
  · subst hk
    rw [hq] at h3
    cases h3
    exact e
  · exact h k p h1 (by omega) h3

set_option maxRecDepth 100000 in
set_option maxHeartbeats 16000000 in
/-- FnParamsOfExact. -/
theorem law7_any (a0 a1 : Option Addr) (cap0 cap1 : Nat) (ss ts : List ByteArray) (w : World) (hA : At w a0 ss) (hA' : At w a1 ts) (hn0 : a0 = none → ss = [] ∧ cap0 = 0) (hn1 : a1 = none → ts = [] ∧ cap1 = 0) :
    Calls Trym.prog 7 #[.slice a0 ss.length cap0, .slice a1 ts.length cap1] w fun e w' => e = .returned (.bool true) ∧ Below w.heap.size w w' := by
  have HA : Hid (At w a0 ss) := hA
  have HA' : Hid (At w a1 ts) := hA'
  have HN0 : Hid (a0 = none → ss = [] ∧ cap0 = 0) := hn0
  have HN1 : Hid (a1 = none → ts = [] ∧ cap1 = 0) := hn1
  clear hA hA' hn0 hn1
  go_enter Trym.func7, Trym.ntmps7
  go_wp2_with fail
  refine (guard_any a0 a1 cap0 cap1 ss ts w HA.out HA'.out).mono ?_
  rintro e w ⟨t, rfl, rfl⟩
  cases t with
  | false =>
    go_wp2
    go_ret
    exact ⟨rfl, Below.refl _ _⟩
  | true =>
    go_wp2_with fail
    refine (addBytes_any 0 a0 cap0 ss w HA.out (by omega)).mono ?_
    rintro e w ⟨r1, rfl, rfl, hr1, hss⟩
    have HSS : Hid (r1 ≤ 1048576 → ss.length ≤ 65536) := hss
    clear hss
    go_wp2_with fail
    refine (addBytes_any r1 a1 cap1 ts w HA'.out hr1).mono ?_
    rintro e w ⟨r2, rfl, rfl, hr2, hts⟩
    have HTS : Hid (r2 ≤ 1048576 → ts.length ≤ 65536) := hts
    clear hts
    by_cases hbig : 1048576 < r2
    · have hd : decide ((1048576 : Int) < (r2 : Int)) = true := decide_eq_true (by omega)
      clear hbig
      go_wp2
      go_ret
      exact ⟨rfl, Below.refl _ _⟩
    · have hd : decide ((1048576 : Int) < (r2 : Int)) = false := decide_eq_false (by omega)
      have htl : ts.length ≤ 65536 := HTS.out (by omega)
      clear hbig
      by_cases hne : ss.length = ts.length
      · have hsl : ss.length ≤ 65536 := by omega
        clear hr1 hr2 HSS HTS
        have HNE : Hid (ss.length = ts.length) := hne
        have hdd : ((ss.length : Int) != (ts.length : Int)) = false := by simp [hne]
        clear hne
        go_wp2_with fail
        refine (clone_any a0 cap0 ss w hsl HA.out HN0.out).mono ?_
        rintro e w1 ⟨b0, rfl, hS0, hb1⟩
        go_wp2_with fail
        refine (clone_any a1 cap1 ts w1 htl (HA'.out.below hb1) HN1.out).mono ?_
        rintro e w2 ⟨b1, rfl, hT0, hb2⟩
        have hS1 := hS0.all hb2
        have hbw2 : Below w.heap.size w w2 := hb1.trans (hb2.mono hb1.size)
        clear hS0 hb1 hb2 HA HA' HN0 HN1
        obtain ⟨L, hL⟩ : ∃ L, L = ss.zip ts := ⟨_, rfl⟩
        have hLl : L.length = ss.length := by rw [hL, List.length_zip]; have := HNE.out; omega
        go_wp2_with fail
        refine (locs_any b0 b1 ss ts w2 hsl HNE.out.symm hS1 hT0).mono ?_
        rintro e w3 ⟨al, rfl, hP3, hb3⟩
        have hbw3 : Below w.heap.size w w3 := hbw2.trans (hb3.mono hbw2.size)
        have hS3 := hS1.all hb3
        have hT3 := hT0.all hb3
        clear hS1 hT0 hb3 hbw2
        rw [← hL] at hP3
        go_wp2_with fail
        have hcall := zzParamsOf_any al L w3 (by omega) hP3
        rw [hLl] at hcall
        refine hcall.mono ?_
        clear hcall
        rintro e w4 ⟨v, rfl, hPar, hb4⟩
        have hbw4 : Below w.heap.size w w4 := hbw3.trans (hb4.mono hbw3.size)
        have hS4 := hS3.all hb4
        have hT4 := hT3.all hb4
        have hB4 : w3.heap.size ≤ w4.heap.size := hb4.size
        clear hS3 hT3 hb4 hP3
        go_wp2_with fail
        refine (pairs_any b0 b1 ss ts w4 hsl HNE.out.symm hS4 hT4).mono ?_
        rintro e w5 ⟨ap, rfl, hP5, hb5⟩
        have hbw5 : Below w.heap.size w w5 := hbw4.trans (hb5.mono hbw4.size)
        have hPar5 := hPar.all hb5
        rw [← hL] at hP5
        have hB5 := hb5.size
        clear hS4 hT4 hb5 hPar hbw4 hbw3
        have HPAR : Hid (Params w3.heap.size w5 v (withP L)) := hPar5
        have HP : Hid (Prs 43 w5 ap L) := hP5
        clear hPar5 hP5 hL
        obtain ⟨n, hn⟩ : ∃ n, n = ss.length := ⟨_, rfl⟩
        have HLL : Hid (L.length = n) := hLl.trans hn.symm
        rw [← hn] at hsl ⊢
        clear hLl hdd hd
        go_wp2
        go_loopw [7, 8] (fun s7 s8 wr => ∃ k : Nat, k ≤ n ∧ s8 = .int .i64 k ∧ wr.ownsRow w5.heap.size 43 2 s7 (withP (L.take k)).length (flatP (withP (L.take k))) ∧ Below w5.heap.size w5 wr)
          (fun _ s8 _ => n - (intOf s8).toNat)
        case atStart => exact ⟨0, Nat.zero_le _, rfl, World.ownsRow_nil _ _ _ _, Below.refl _ _⟩
        case round =>
          obtain ⟨k, hk, rfl, hown, hbr⟩ := hrel
          by_cases hlt : k < n
          · obtain ⟨fs, hfs⟩ := struct43
            obtain ⟨p, hp⟩ : ∃ p, L[k]? = some p := ⟨_, List.getElem?_eq_getElem (by rw [HLL.out]; exact hlt)⟩
            rcases HP.out with ⟨_, h0⟩ | ⟨g, rfl, hB⟩
            · rw [h0] at hp; simp at hp
            have hBr := hB.all hbr
            have hra : wr.rangeAt g (k * 2) (pc p) := pair_range hBr hp
            have c1 : wr.cell? ⟨g, k * 2 + 1, none⟩ = some (.string p.2) := by rw [hBr.cell]; exact flatP_get1 L k p hp
            have HTK : Hid (L.take (k + 1) = L.take k ++ [p]) := take_snoc L k p hp
            clear hp hB hBr
            by_cases he : p.2 = ByteArray.empty
            · have hq := isEmpty_str he
              have HW : Hid (withP (L.take (k + 1)) = withP (L.take k)) := by
                show _ = _
                rw [HTK.out]
                simp [withP, hasP, he]
              clear he
              go_wp2
              go_roundw
              case rel => exact ⟨k + 1, by omega, by go_num, by rw [HW.out]; exact hown, hbr⟩
              case measure => simp [intOf]; omega
            · have hq := notEmpty_str he
              have HW : Hid (withP (L.take (k + 1)) = withP (L.take k) ++ [p]) := by
                show _ = _
                rw [HTK.out]
                simp [withP, hasP, he]
              have hWl : (withP (L.take k)).length ≤ 65536 := by
                have h1 : (withP (L.take k)).length ≤ (L.take k).length := List.length_filter_le _ _
                rw [List.length_take] at h1
                omega
              obtain ⟨i0, hi, hz0, hz1, hz2⟩ := info_parts Trym.info43
              have HHI : Hid (Trym.prog.info? 43 = some i0) := hi
              have HZ0 : Hid (i0.zero = some (.agg #[.string ByteArray.empty, .string ByteArray.empty])) := hz0
              have HZ1 : Hid (i0.size = 2) := hz1
              have HZ2 : Hid (i0.bytes = 32) := hz2
              clear he hi hz0 hz1 hz2
              go_wp2_with (first
                | ((with_reducible show wpList _ _ _ (Oper.mk _ (Op.load 43 _) _ _ _ _ :: _) _ _); refine wpList_val rfl (exec_loadB 43 _ rfl g (k * 2) rfl (pc p) hra _ hfs rfl (by rw [pc_length]; exact Trym.size43)) ?_)
                | ((with_reducible show wpList _ _ _ (Oper.mk _ (Op.buildSlice 32 _ _) _ _ _ _ :: _) _ _); refine wpList_buildSliceB rfl 32 43 _ rfl (pc p) rfl Trym.underlying32 [.string ByteArray.empty, .string ByteArray.empty] 2 build43 rfl rfl (by omega) (by omega) ?_; intro gb w7 hgb hBb hgr7; have hown7 := own_grown hown hgr7 (Classical.em _))
                | (at_builtin; refine wpList_append_own_wide _ rfl _ _ 32 rfl w5.heap.size 43 i0 (.agg #[.string ByteArray.empty, .string ByteArray.empty]) 2 32 Trym.underlying32 HHI.out HZ0.out HZ1.out HZ2.out rfl (by omega) _ _ _ rfl hown7 ⟨gb, 0, none⟩ 1 1 (pc p) rfl (by rw [pc_length]) (fun j v hv => by rw [Addr.add_lit, Nat.zero_add, hBb.cell]; exact hv) (pc_ones p) (by unfold maxLen; omega) (by omega) (Nat.le_trans hbr.size hgr7.size) ?_; intro v8 w8 hown8 hgr8 _))
              go_roundw
              case rel => exact ⟨k + 1, by omega, by go_num, by rw [HW.out, flatP_append, List.length_append]; simpa [flatP] using hown8, (hbr.trans ((grownBelow hgr7).mono hbr.size)).grown hgr8 (Nat.le_trans hbr.size hgr7.size) (fun q hq => own_ge hown7 hq)⟩
              case measure => simp [intOf]; omega
          · obtain rfl : k = n := by omega
            have e : L.take k = L := List.take_of_length_le (by rw [HLL.out]; exact Nat.le_refl _)
            rw [e] at hown
            clear e
            obtain ⟨aw, cw, hv7, hSrc⟩ := own_slice hown rfl
            subst hv7
            clear hown hk hlt
            obtain ⟨W, hW⟩ : ∃ W, W = withP L := ⟨_, rfl⟩
            have hWl : W.length ≤ 65536 := by
              have h1 : (withP L).length ≤ L.length := List.length_filter_le _ _
              rw [HLL.out, ← hW] at h1
              omega
            have hPar := HPAR.out.all hbr
            rw [← hW] at hPar hSrc ⊢
            have hbw6 : Below w.heap.size w wr := hbw5.trans (hbr.mono hbw5.size)
            have hB6 : w3.heap.size ≤ wr.heap.size := by have := hbr.size; omega
            clear hW HPAR hbr hbw5 HP
            rcases hPar with ⟨rfl, h0⟩ | ⟨m, kv, rfl, hm, hWne, hM, hk, ho⟩
            · have hn0 := fun (w : World) => run_eql_map_nil (P := Trym.prog) w 45 9 29 none Trym.underlying45
              subst h0
              go_wp2
              go_ret
              exact ⟨rfl, hbw6⟩
            · have hn0 := fun (w : World) => run_eql_map_nil (P := Trym.prog) w 45 9 29 (some m) Trym.underlying45
              have hWp : 0 < W.length := List.length_pos_iff.2 hWne
              have HPAR : Hid (Params w3.heap.size wr (.map (some m)) W) := .inr ⟨m, kv, rfl, hm, hWne, hM, hk, ho⟩
              have HSRC : Hid (Src wr aw cw W) := hSrc
              clear hm hWne ho hSrc
              go_wp2_with fail
              refine (sort_gen aw cw W true wr hWl HSRC.out).mono ?_
              rintro e w7 ⟨gt, T, rfl, hBT, hgt, hTl, hSrt, hSame, hb7⟩
              have hbw7 : Below w.heap.size w w7 := hbw6.trans (hb7.mono hbw6.size)
              have hPar7 := HPAR.out.all hb7
              have hM7 := hM.all hb7
              clear HPAR HSRC hM hb7 hbw6 hgt
              have HPAR : Hid (Params w3.heap.size w7 (.map (some m)) W) := hPar7
              have HM : Hid (MapB w7 m KS kv) := hM7
              have HKV : Hid (kv.map (fun q : ByteArray × Value => q.1) = keysOf (W.map (·.1))) := hk
              have HBT : Hid (Blk w7 gt (flatP T) 43) := hBT
              have HSRT : Hid (Srt (before true) T) := hSrt
              have HSAME : Hid (Same (before true) T W) := hSame
              clear hPar7 hM7 hk hBT hSrt hSame hn0
              obtain ⟨N, hN⟩ : ∃ N, N = W.length := ⟨_, rfl⟩
              have HTL : Hid (T.length = N) := hTl.trans hN.symm
              have HN : Hid (N = W.length) := hN
              rw [← hN] at hWl hWp ⊢
              clear hN hTl hB6 hB4 hB5 HNE HLL
              go_wp2
              go_loopw [10, 11] (fun s10 s11 wr => ∃ c i : Nat, s10 = .int .i64 c ∧ s11 = .int .i64 i ∧ i ≤ N ∧ c ≤ i ∧ GR T c i ∧ Below w7.heap.size w7 wr)
                (fun _ s11 _ => N - (intOf s11).toNat)
              case atStart => exact ⟨0, 0, rfl, rfl, Nat.zero_le _, Nat.le_refl _, GR.start T, Below.refl _ _⟩
              case round =>
                obtain ⟨wo, rfl⟩ : ∃ wo : World, wo = wr := ⟨_, rfl⟩
                obtain ⟨c, i, rfl, rfl, hiN0, hci, hGR, hb7o⟩ := hrel
                have HGR : Hid (GR T c i) := hGR
                clear hGR
                by_cases hlt : i < N
                · obtain ⟨p0, hp0⟩ : ∃ p0, T[i]? = some p0 := ⟨_, List.getElem?_eq_getElem (by rw [HTL.out]; exact hlt)⟩
                  have HP0 : Hid (T[i]? = some p0) := hp0
                  clear hp0
                  go_wp2
                  go_loopw [12] (fun s12 wr => ∃ j : Nat, s12 = .int .i64 j ∧ i ≤ j ∧ j ≤ N ∧ RunTo T i j p0 ∧ Below w7.heap.size w7 wr)
                    (fun s12 _ => N - (intOf s12).toNat)
                  case atStart => exact ⟨i, rfl, Nat.le_refl _, hiN0, fun k p h1 h2 => by omega, hb7o⟩
                  case round =>
                    obtain ⟨j, rfl, hij0, hjN, hrun, hb7r⟩ := hrel
                    have HRUN : Hid (RunTo T i j p0) := hrun
                    clear hrun hb7o
                    by_cases hjlt : j < N
                    · obtain ⟨q, hq⟩ : ∃ q, T[j]? = some q := ⟨_, List.getElem?_eq_getElem (by rw [HTL.out]; exact hjlt)⟩
                      have c0 : wr.cell? ⟨gt, i * 2, none⟩ = some (.string p0.1) := by rw [(HBT.out.all hb7r).cell]; exact flatP_get0 T i p0 HP0.out
                      have cq : wr.cell? ⟨gt, j * 2, none⟩ = some (.string q.1) := by rw [(HBT.out.all hb7r).cell]; exact flatP_get0 T j q hq
                      have HQ : Hid (T[j]? = some q) := hq
                      clear hq
                      by_cases hqe : q.1 = p0.1
                      · have hqd := eq_toList hqe
                        have HQE : Hid (q.1 = p0.1) := hqe
                        have hdj : decide ((j : Int) < (N : Int)) = true := decide_eq_true (by omega)
                        clear hqe
                        go_wp2
                        go_quiet (fail)
                        go_wp2
                        go_roundw
                        case rel => exact ⟨j + 1, by go_num, by omega, by omega, HRUN.out.more HQ.out HQE.out, hb7r.trans ((below_drewN wr nq).mono hb7r.size)⟩
                        case measure => simp [intOf]; omega
                      · have hqd := ne_toList hqe
                        have HEND : Hid (∀ q, T[j]? = some q → q.1 ≠ p0.1) := fun q' h' => by
                          rw [HQ.out] at h'
                          cases h'
                          exact hqe
                        have hdj : decide ((j : Int) < (N : Int)) = true := decide_eq_true (by omega)
                        clear hqe
                        go_wp2
                        go_quiet (fail)
                        obtain ⟨wz, hwz⟩ : ∃ wz, wz = wr.drewN nq := ⟨_, rfl⟩
                        have hb7z : Below w7.heap.size w7 wz := by
                          rw [hwz]
                          exact hb7r.trans ((below_drewN wr nq).mono hb7r.size)
                        rw [← hwz]
                        clear hwz hb7r
                        clear c0 cq
                        have hij : i < j := by
                          by_cases h : i = j
                          · subst h
                            exact absurd rfl (HEND.out p0 HP0.out)
                          · omega
                        have hGR2 : GR T (c + 1) j := HGR.out.step HSRT.out HP0.out hij (by rw [HTL.out]; exact hjN) HRUN.out HEND.out
                        have HGR2 : Hid (GR T (c + 1) j) := hGR2
                        have hnm := HGR.out.named HSRT.out HSAME.out HP0.out hij (by rw [HTL.out]; exact hjN) HRUN.out HEND.out
                        have hlen : (named p0.1 W).length = j - i := by rw [hnm, List.length_take, List.length_drop, HTL.out]; omega
                        have HNM : Hid (named p0.1 W = (T.drop i).take (j - i)) := hnm
                        have HLEN : Hid ((named p0.1 W).length = j - i) := hlen
                        have hmem : p0.1 ∈ W.map (·.1) := mem_named.2 (fun h0 => by rw [h0] at hlen; simp at hlen; omega)
                        obtain ⟨m', gl, cl, hmm, hlk⟩ := (HPAR.out.all hb7z).look hmem
                        obtain rfl : m = m' := by simpa using hmm
                        have HLK : Hid (∀ w', Below wz.heap.size wz w' → (Instr.lookup 45 (.map (some m)) (.string p0.1) false).run Trym.prog w' = .ok (.slice (some ⟨gl, 0, none⟩) (named p0.1 W).length cl) w' ∧ w'.rangeAt gl 0 (flatP (named p0.1 W))) := hlk
                        clear hmm hlk hmem hnm hlen hGR2
                        have hBTr := HBT.out.all hb7z
                        have HC0 : Hid (∀ w', Below wz.heap.size wz w' → w'.cell? ⟨gt, i * 2, none⟩ = some (.string p0.1)) := fun w' hw' => by rw [(hBTr.all hw').cell]; exact flatP_get0 T i p0 HP0.out
                        have HCS : Hid (∀ k p, (named p0.1 W)[k]? = some p → ∀ w', Below wz.heap.size wz w' → w'.cell? ⟨gt, i * 2 + k * 2, none⟩ = some (.string p.1) ∧ w'.cell? ⟨gt, i * 2 + k * 2 + 1, none⟩ = some (.string p.2)) := fun k p hp w' hw' => by
                          have hkT : T[i + k]? = some p := by
                            rw [HNM.out, List.getElem?_take] at hp
                            split at hp
                            · rwa [List.getElem?_drop] at hp
                            · cases hp
                          rw [show i * 2 + k * 2 = (i + k) * 2 from by omega, (hBTr.all hw').cell, (hBTr.all hw').cell]
                          exact ⟨flatP_get0 T _ p hkT, flatP_get1 T _ p hkT⟩
                        have hiN : i < N := hlt
                        clear hBTr
                        go_wp2
                        refine wp_region_quietC (fun w' => Below wz.heap.size wz w') (by kernel_rfl) (by kernel_rfl) (Below.refl _ _).drew ?_
                        refine wpQuiet_mv _ (.map (some m)) rfl rfl rfl ?_
                        go_frame
                        refine wpQuiet_mv _ (.slice (some ⟨gt, 0, none⟩) N N) rfl rfl rfl ?_
                        go_frame
                        refine wpQuiet_mv _ (.int .i64 (i : Int)) rfl rfl rfl ?_
                        go_frame
                        refine wpQuiet_val rfl (.pointer (some ⟨gt, 0 + i * 2, none⟩)) (fun w' _ => exec_indexB 32 43 _ _ rfl gt 0 _ _ rfl .i64 i rfl hiN Trym.underlying32 2 Trym.size43) ?_
                        go_frame
                        refine wpQuiet_val rfl (.pointer (some ⟨gt, 0 + i * 2, none⟩)) (fun w' _ => exec_fld0 _ rfl gt _ rfl) ?_
                        go_frame
                        refine wpQuiet_val rfl (.string p0.1) (fun w' hw' => exec_cell 9 _ rfl gt _ rfl _ Trym.underlying9 rfl _ (by rw [Nat.zero_add]; exact HC0.out w' hw')) ?_
                        go_frame
                        refine wpQuiet_val rfl (.slice (some ⟨gl, 0, none⟩) (named p0.1 W).length cl) (fun w' hw' => exec_lookB _ _ rfl m p0.1 rfl rfl _ (HLK.out w' hw').1) ?_
                        go_frame
                        refine wpQuiet_mv _ (.slice (some ⟨gt, 0, none⟩) N N) rfl rfl rfl ?_
                        go_frame
                        refine wpQuiet_mv _ (.int .i64 (i : Int)) rfl rfl rfl ?_
                        go_frame
                        refine wpQuiet_mv _ (.int .i64 (j : Int)) rfl rfl rfl ?_
                        go_frame
                        refine wpQuiet_val rfl (.slice (some ⟨gt, i * 2, none⟩) (named p0.1 W).length (N - i)) (fun w' _ => by rw [HLEN.out]; exact exec_sliceB _ _ _ rfl gt N rfl i j rfl rfl (by omega) hjN hiN) ?_
                        go_frame
                        refine wpQuiet_callB rfl (.bool true) 29 #[.slice (some ⟨gl, 0, none⟩) (named p0.1 W).length cl, .slice (some ⟨gt, i * 2, none⟩) (named p0.1 W).length (N - i)] (fun w' => by simp [go_sem]) (fun w' hw' => (sameLocs_any gl gt (i * 2) cl (N - i) (named p0.1 W) w' (by rw [HLEN.out]; omega) (fun k p hp w2 h2 => by have := flatP_range ((HLK.out w2 (hw'.trans (h2.mono hw'.size))).2) hp; rwa [Nat.zero_add] at this) (fun k p hp w2 h2 => HCS.out k p hp w2 (hw'.trans (h2.mono hw'.size)))).mono (fun e w'' h => ⟨h.1, hw'.trans (h.2.mono hw'.size)⟩)) ?_
                        go_frame
                        refine wpQuiet_val rfl (.bool false) (fun w' _ => exec_not 4 _ rfl true rfl) ?_
                        go_frame
                        refine wpQuiet_nil ?_
                        intro wq hbq
                        have hbq2 : Below w7.heap.size w7 wq := hb7z.trans (hbq.mono hb7z.size)
                        clear hbq hb7z HC0 HCS HLK
                        go_wp2
                        go_roundw
                        case rel => exact ⟨c + 1, j, by go_num, rfl, hjN, by omega, HGR2.out, hbq2⟩
                        case measure => simp [intOf]; omega
                    · obtain rfl : j = N := by omega
                      have HEND : Hid (∀ q, T[j]? = some q → q.1 ≠ p0.1) := fun q' h' => by
                        have := (List.getElem?_eq_some_iff.1 h').1
                        rw [HTL.out] at this
                        omega
                      have hdj : decide ((j : Int) < (j : Int)) = false := decide_eq_false (by omega)
                      clear hjlt
                      go_wp2
                      go_quiet (fail)
                      obtain ⟨wz, hwz⟩ : ∃ wz, wz = wr.drewN nq := ⟨_, rfl⟩
                      have hb7z : Below w7.heap.size w7 wz := by
                        rw [hwz]
                        exact hb7r.trans ((below_drewN wr nq).mono hb7r.size)
                      rw [← hwz]
                      clear hwz hb7r
                      have hij : i < j := by
                        by_cases h : i = j
                        · subst h
                          exact absurd rfl (HEND.out p0 HP0.out)
                        · omega
                      have hGR2 : GR T (c + 1) j := HGR.out.step HSRT.out HP0.out hij (by rw [HTL.out]; exact hjN) HRUN.out HEND.out
                      have HGR2 : Hid (GR T (c + 1) j) := hGR2
                      have hnm := HGR.out.named HSRT.out HSAME.out HP0.out hij (by rw [HTL.out]; exact hjN) HRUN.out HEND.out
                      have hlen : (named p0.1 W).length = j - i := by rw [hnm, List.length_take, List.length_drop, HTL.out]; omega
                      have HNM : Hid (named p0.1 W = (T.drop i).take (j - i)) := hnm
                      have HLEN : Hid ((named p0.1 W).length = j - i) := hlen
                      have hmem : p0.1 ∈ W.map (·.1) := mem_named.2 (fun h0 => by rw [h0] at hlen; simp at hlen; omega)
                      obtain ⟨m', gl, cl, hmm, hlk⟩ := (HPAR.out.all hb7z).look hmem
                      obtain rfl : m = m' := by simpa using hmm
                      have HLK : Hid (∀ w', Below wz.heap.size wz w' → (Instr.lookup 45 (.map (some m)) (.string p0.1) false).run Trym.prog w' = .ok (.slice (some ⟨gl, 0, none⟩) (named p0.1 W).length cl) w' ∧ w'.rangeAt gl 0 (flatP (named p0.1 W))) := hlk
                      clear hmm hlk hmem hnm hlen hGR2
                      have hBTr := HBT.out.all hb7z
                      have HC0 : Hid (∀ w', Below wz.heap.size wz w' → w'.cell? ⟨gt, i * 2, none⟩ = some (.string p0.1)) := fun w' hw' => by rw [(hBTr.all hw').cell]; exact flatP_get0 T i p0 HP0.out
                      have HCS : Hid (∀ k p, (named p0.1 W)[k]? = some p → ∀ w', Below wz.heap.size wz w' → w'.cell? ⟨gt, i * 2 + k * 2, none⟩ = some (.string p.1) ∧ w'.cell? ⟨gt, i * 2 + k * 2 + 1, none⟩ = some (.string p.2)) := fun k p hp w' hw' => by
                        have hkT : T[i + k]? = some p := by
                          rw [HNM.out, List.getElem?_take] at hp
                          split at hp
                          · rwa [List.getElem?_drop] at hp
                          · cases hp
                        rw [show i * 2 + k * 2 = (i + k) * 2 from by omega, (hBTr.all hw').cell, (hBTr.all hw').cell]
                        exact ⟨flatP_get0 T _ p hkT, flatP_get1 T _ p hkT⟩
                      have hiN : i < j := hlt
                      clear hBTr
                      go_wp2
                      refine wp_region_quietC (fun w' => Below wz.heap.size wz w') (by kernel_rfl) (by kernel_rfl) (Below.refl _ _).drew ?_
                      refine wpQuiet_mv _ (.map (some m)) rfl rfl rfl ?_
                      go_frame
                      refine wpQuiet_mv _ (.slice (some ⟨gt, 0, none⟩) j j) rfl rfl rfl ?_
                      go_frame
                      refine wpQuiet_mv _ (.int .i64 (i : Int)) rfl rfl rfl ?_
                      go_frame
                      refine wpQuiet_val rfl (.pointer (some ⟨gt, 0 + i * 2, none⟩)) (fun w' _ => exec_indexB 32 43 _ _ rfl gt 0 _ _ rfl .i64 i rfl hiN Trym.underlying32 2 Trym.size43) ?_
                      go_frame
                      refine wpQuiet_val rfl (.pointer (some ⟨gt, 0 + i * 2, none⟩)) (fun w' _ => exec_fld0 _ rfl gt _ rfl) ?_
                      go_frame
                      refine wpQuiet_val rfl (.string p0.1) (fun w' hw' => exec_cell 9 _ rfl gt _ rfl _ Trym.underlying9 rfl _ (by rw [Nat.zero_add]; exact HC0.out w' hw')) ?_
                      go_frame
                      refine wpQuiet_val rfl (.slice (some ⟨gl, 0, none⟩) (named p0.1 W).length cl) (fun w' hw' => exec_lookB _ _ rfl m p0.1 rfl rfl _ (HLK.out w' hw').1) ?_
                      go_frame
                      refine wpQuiet_mv _ (.slice (some ⟨gt, 0, none⟩) j j) rfl rfl rfl ?_
                      go_frame
                      refine wpQuiet_mv _ (.int .i64 (i : Int)) rfl rfl rfl ?_
                      go_frame
                      refine wpQuiet_mv _ (.int .i64 (j : Int)) rfl rfl rfl ?_
                      go_frame
                      refine wpQuiet_val rfl (.slice (some ⟨gt, i * 2, none⟩) (named p0.1 W).length (j - i)) (fun w' _ => by rw [HLEN.out]; exact exec_sliceB _ _ _ rfl gt j rfl i j rfl rfl (by omega) hjN hiN) ?_
                      go_frame
                      refine wpQuiet_callB rfl (.bool true) 29 #[.slice (some ⟨gl, 0, none⟩) (named p0.1 W).length cl, .slice (some ⟨gt, i * 2, none⟩) (named p0.1 W).length (j - i)] (fun w' => by simp [go_sem]) (fun w' hw' => (sameLocs_any gl gt (i * 2) cl (j - i) (named p0.1 W) w' (by rw [HLEN.out]; omega) (fun k p hp w2 h2 => by have := flatP_range ((HLK.out w2 (hw'.trans (h2.mono hw'.size))).2) hp; rwa [Nat.zero_add] at this) (fun k p hp w2 h2 => HCS.out k p hp w2 (hw'.trans (h2.mono hw'.size)))).mono (fun e w'' h => ⟨h.1, hw'.trans (h.2.mono hw'.size)⟩)) ?_
                      go_frame
                      refine wpQuiet_val rfl (.bool false) (fun w' _ => exec_not 4 _ rfl true rfl) ?_
                      go_frame
                      refine wpQuiet_nil ?_
                      intro wq hbq
                      have hbq2 : Below w7.heap.size w7 wq := hb7z.trans (hbq.mono hb7z.size)
                      clear hbq hb7z HC0 HCS HLK
                      go_wp2
                      go_roundw
                      case rel => exact ⟨c + 1, j, by go_num, rfl, hjN, by omega, HGR2.out, hbq2⟩
                      case measure => simp [intOf]; omega
                · obtain rfl : i = N := by omega
                  have hcl : c = kv.length := by
                    rw [HGR.out.2]
                    have e : T.take i = T := List.take_of_length_le (by rw [HTL.out]; exact Nat.le_refl _)
                    rw [e, groups_all HSAME.out, ← HKV.out, List.length_map]
                  have hlen := run_lenB (w := wo) (ty := 3) Trym.underlying45 (HM.out.all hb7o)
                  rw [← hcl] at hlen
                  clear hcl
                  go_wp2
                  go_ret
                  exact ⟨rfl, hbw7.trans (hb7o.mono hbw7.size)⟩
      · go_wp2
        go_ret
        exact ⟨rfl, Below.refl _ _⟩
end Go.Proofs.Qxb6603070aMods.M
