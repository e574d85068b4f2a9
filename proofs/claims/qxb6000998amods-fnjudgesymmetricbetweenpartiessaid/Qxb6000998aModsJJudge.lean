import Derived.Test.Qxb6000998aModsJBytes
namespace Go.Proofs.Qxb6000998aMods.J
open Go.RowKit Go.Proofs.Qxb6000998aMods.L

theorem ret_bool {a b : Bool} (h : a = b) : Ending.returned (.bool a) = .returned (.bool b) := by rw [h]

/-- sameBytes: the lengths part. -/
theorem same_len (a a' : Option Addr) (n c n' c' : Nat) (w : World) (hne : ¬ n = n') :
    Calls Trym.prog 15 #[.slice a n c, .slice a' n' c'] w fun e w' => e = .returned (.bool false) ∧ ∃ m, w' = w.drewN m := by
  have h : ((n : Int) != (n' : Int)) = true := by simp; omega
  go_enter Trym.func15, Trym.ntmps15
  go_wp2
  go_ret
  exact ⟨rfl, 0, rfl⟩

theorem same_empty (a a' : Option Addr) (c c' : Nat) (w : World) :
    Calls Trym.prog 15 #[.slice a 0 c, .slice a' 0 c'] w fun e w' => e = .returned (.bool true) ∧ ∃ m, w' = w.drewN m := by
  go_enter Trym.func15, Trym.ntmps15
  go_wp2
  refine wp_loop_rounds 1 ?_
  rw [rounds_succ]
  go_wp2
  go_ret
  exact ⟨rfl, 0, rfl⟩

set_option maxHeartbeats 800000 in
theorem same_any (g g' n : Nat) (zs ys : List Int) (w : World) (hn : n ≤ 1048576) (hz : zs.length = n) (hy : ys.length = n) (h1 : Blk w g (zs.map (Value.int .u8)) 5) (h2 : Blk w g' (ys.map (Value.int .u8)) 5) :
    Calls Trym.prog 15 #[.slice (some ⟨g, 0, none⟩) n n, .slice (some ⟨g', 0, none⟩) n n] w fun e w' => e = .returned (.bool (zs == ys)) ∧ ∃ m, w' = w.drewN m := by
  go_enter Trym.func15, Trym.ntmps15
  go_wp2
  go_loopw [5] (fun i wr => ∃ k m : Nat, k ≤ n ∧ i = .int .i64 k ∧ wr = w.drewN m ∧ zs.take k = ys.take k)
    (fun i _ => n - (intOf i).toNat)
  case atStart => exact ⟨0, 0, Nat.zero_le _, rfl, rfl, rfl⟩
  case round =>
    obtain ⟨k, m, hk, rfl, rfl, heq⟩ := hrel
    by_cases hlt : k < n
    · have hk1 : k < zs.length := by omega
      have hk2 : k < ys.length := by omega
      have hc1 : w.cell? ⟨g, k, none⟩ = some (.int .u8 zs[k]) := by rw [h1.cell]; simp [hk1]
      have hc2 : w.cell? ⟨g', k, none⟩ = some (.int .u8 ys[k]) := by rw [h2.cell]; simp [hk2]
      obtain ⟨x, hx⟩ : ∃ x, x = zs[k] := ⟨_, rfl⟩
      obtain ⟨y, hy'⟩ : ∃ y, y = ys[k] := ⟨_, rfl⟩
      rw [← hx] at hc1
      rw [← hy'] at hc2
      have HX : Hid (x = zs[k]) := hx
      have HY : Hid (y = ys[k]) := hy'
      have HE : Hid (zs.take k = ys.take k) := heq
      have HN : Hid (zs.length = n ∧ ys.length = n) := ⟨hz, hy⟩
      clear hx hy' heq hz hy
      have i1 : (0 : Int) ≤ (k : Int) := by omega
      have i2 : (k : Int) < (n : Int) := by omega
      by_cases hxy : x = y
      · have hb : (x != y) = false := by simp [hxy]
        have HXY : Hid (x = y) := hxy
        clear hxy
        go_wp2
        go_quiet (fail)
        go_wp2
        go_roundw
        case rel =>
          refine ⟨k + 1, m + nq, by omega, by go_num, ?_, ?_⟩
          · rfl
          · rw [List.take_succ_eq_append_getElem hk1, List.take_succ_eq_append_getElem hk2, HE.out, ← HX.out, ← HY.out, HXY.out]
        case measure => simp [intOf]; omega
      · have hb : (x != y) = true := by simp [hxy]
        have HXY : Hid (¬ x = y) := hxy
        clear hxy
        go_wp2
        go_quiet (fail)
        go_wp2
        go_ret
        have hne : (zs == ys) = false := by
          rw [beq_eq_false_iff_ne]
          intro h
          apply HXY.out
          rw [HX.out, HY.out]
          simp [h]
        exact ⟨ret_bool hne.symm, m + nq, by rw [World.drewN_drewN]⟩
    · go_wp2
      go_ret
      obtain rfl : k = n := by omega
      have e : zs = ys := by
        rw [List.take_of_length_le (by omega), List.take_of_length_le (by omega)] at heq
        exact heq
      exact ⟨ret_bool (by rw [e]; simp), m, rfl⟩

/-- sameBytes at two slices of the call's own. -/
theorem same_bytes (v v' : Value) (zs ys : List Int) (w : World) (h1 : Bytes w v zs) (h2 : Bytes w v' ys) (hn : zs.length ≤ 1048576) :
    Calls Trym.prog 15 #[v, v'] w fun e w' => e = .returned (.bool (zs == ys)) ∧ ∃ m, w' = w.drewN m := by
  by_cases hl : zs.length = ys.length
  · by_cases h0 : zs.length = 0
    · have hz : zs = [] := List.eq_nil_of_length_eq_zero h0
      have hy : ys = [] := List.eq_nil_of_length_eq_zero (by omega)
      subst hz; subst hy
      rcases h1 with ⟨rfl, _⟩ | ⟨g, rfl, _⟩ <;> rcases h2 with ⟨rfl, _⟩ | ⟨g', rfl, _⟩ <;> exact same_empty _ _ _ _ w
    · rcases h1 with ⟨_, rfl⟩ | ⟨g, rfl, hb1⟩
      · simp at h0
      · rcases h2 with ⟨_, rfl⟩ | ⟨g', rfl, hb2⟩
        · simp at hl; simp [hl] at h0
        · rw [← hl]
          exact same_any g g' zs.length zs ys w hn rfl hl.symm hb1 hb2
  · have hne : (zs == ys) = false := by
      rw [beq_eq_false_iff_ne]
      intro h; exact hl (by rw [h])
    rw [hne]
    rcases h1 with ⟨rfl, rfl⟩ | ⟨g, rfl, _⟩ <;> rcases h2 with ⟨rfl, rfl⟩ | ⟨g', rfl, _⟩ <;> exact same_len _ _ _ _ _ _ w hl

theorem Trym.size22 : (Trym.prog.info? 22).map (·.size) = some 32 := by kernel_rfl
theorem Trym.size5 : (Trym.prog.info? 5).map (·.size) = some 1 := by kernel_rfl
theorem Trym.size37 : (Trym.prog.info? 37).map (·.size) = some 196 := by kernel_rfl

theorem wpQuiet_val {P : Program} {ops : Array Oper} {C : World → Prop} {Q : Act → Prop} {o : Oper} {rest : List Oper} {a : Act} (hw : Region.wanted o (yielded ops a.tmps) = true) (v : Value)
    (h : ∀ w, C w → (execOp a.eval o).run P w = .ok (.value v) w) (k : wpQuiet P ops C Q rest (a.put o.dst v)) : wpQuiet P ops C Q (o :: rest) a :=
  wpQuiet_step fun K hK => by
    rw [if_pos hw]
    exact ⟨v, fun w' hw' => by unfold Oper.quietAt; rw [h w' hw']; exact ⟨rfl, rfl⟩, hK _ k⟩

/-- A whole array read in a quiet region. -/
theorem exec_loadB {P : Program} {o : Oper} {a : Act} {w : World} (ty : TypeId) (x : Operand) (ho : o.op = .load ty x) (b off : Nat) (hx : a.eval x = .pointer (some ⟨b, off, none⟩)) (C : List Value) (t : TypeId) (n : Nat) (hB : Blk w b C t)
    (d : TypeDesc) (hu : P.underlying ty = some d) (hd : d.isRow = true) (hi : (P.info? ty).map (·.size) = some n) (hn : off + n ≤ C.length) (vs : List Value) (hvs : (C.drop off).take n = vs) :
    (execOp a.eval o).run P w = .ok (.value (.agg vs.toArray)) w := by
  have h := run_loadVar_mid (P := P) w b off ty ((C.drop off).take n) d (hB.range off n) hu hd (by rw [hi]; congr 1; simp; omega)
  rw [hvs] at h
  simp [execOp, ho, hx, Instr.loadAt, Instr.sureAddr, h]

theorem drewBelow (B : Nat) (w : World) (n : Nat) : Below B w (w.drewN n) := by
  induction n generalizing w with
  | zero => exact Below.refl _ _
  | succ n ih => exact (ih w).drew

/-- '!=' of two arrays, as one operation. -/
theorem exec_neq {P : Program} {o : Oper} {a : Act} {w : World} (t : TypeId) (x y : Operand) (u : TypeId) (ho : o.op = .binOp .neq t x y u) (xs ys : Array Value) (hx : a.eval x = .agg xs) (hy : a.eval y = .agg ys) (r : Bool)
    (h : (binOp .neq t (.agg xs) (.agg ys)).run P w = .ok (.bool r) w) (hg : P.eqGuardType P.depth t = false) : (execOp a.eval o).run P w = .ok (.value (.bool r)) w := by
  simp [execOp, ho, hx, hy, eqGuard, hg, h]

set_option maxHeartbeats 1600000 in
theorem judge_any (us zs ys : List Int) (bb fb : Nat) (r : Int) (CU CV : List Value) (mu mv : Value) (w : World) (hu : us.length = 32)
    (h1 : Blk w bb CU 37) (h2 : Blk w fb CV 37) (l2 : CV.length = 196) (m1 : CU[98]? = some mu) (m2 : CV[98]? = some mv) (b1 : Bytes w mu zs) (b2 : Bytes w mv ys)
    (hcp : (CV.drop 66).take 32 = us.map (Value.int .u8)) (hz : ∀ n ∈ zs, 0 ≤ n ∧ n ≤ 255) (hy : ∀ n ∈ ys, 0 ≤ n ∧ n ≤ 255) (t : Bool) (ht : (zs == ys) = t) :
    Calls Trym.prog 28 #[.agg (us.map (Value.int .u8)).toArray, .pointer (some ⟨bb, 0, none⟩), .int .u64 r, .agg #[.int .u64 r, .slice (some ⟨fb, 0, none⟩) 1 1]] w fun e w' =>
      e = .returned (.tuple #[.int .i64 (if t then 1 else 2), .bool true]) ∧ Below w.heap.size w w' := by
  have HT : Hid ((zs == ys) = t) := ht
  clear ht
  go_enter Trym.func28, Trym.ntmps28
  go_wp2_with (first | (with_reducible show wpList _ _ _ (Oper.mk _ (Op.box 22 _) _ _ _ _ :: _) _ _; refine wpList_boxB rfl 22 _ rfl _ (us.map (Value.int .u8)) rfl rfl ?_) | fail)
  intro g1 w1 hg1 hB1 hgr1
  go_wp2_with (first | (with_reducible show wpList _ _ _ (Oper.mk _ (Op.box 70 _) _ _ _ _ :: _) _ _; refine wpList_boxB rfl 70 _ rfl _ [.int .u64 r, .slice (some ⟨fb, 0, none⟩) 1 1] rfl rfl ?_) | fail)
  intro g2 w2 hg2 hB2 hgr2
  have hbel := (grownBelow hgr1).trans ((grownBelow hgr2).mono hgr1.size)
  replace hB1 := hB1.kept hgr2
  replace h1 := h1.all hbel
  replace h2 := h2.all hbel
  replace b1 := b1.all hbel
  replace b2 := b2.all hbel
  clear hgr1 hgr2 hg1 hg2
  have c0 : w2.cell? ⟨g2, 0, none⟩ = some (.int .u64 r) := hB2.cell 0
  have c1 : w2.cell? ⟨g2, 1, none⟩ = some (.slice (some ⟨fb, 0, none⟩) 1 1) := hB2.cell 1
  have c2 : w2.cell? ⟨bb, 98, none⟩ = some mu := by rw [h1.cell]; exact m1
  have c3 : w2.cell? ⟨fb, 98, none⟩ = some mv := by rw [h2.cell]; exact m2
  clear m1 m2
  go_wp2
  have HE : ∀ n, Calls Trym.prog 30 #[mu, mv] (w2.drewN n) fun e w' => e = .returned (.bool t) ∧ w' = w2.drewN n := by
    intro n
    rw [← HT.out]
    exact equal_any mu mv zs ys (w2.drewN n) (b1.drew n) (b2.drew n) hz hy
  have HH : Hid (∀ n, Calls Trym.prog 30 #[mu, mv] (w2.drewN n) fun e w' => e = .returned (.bool t) ∧ w' = w2.drewN n) := HE
  clear HE
  cases t with
  | false =>
    refine wp_region_quiet_lit (by kernel_rfl) (by kernel_rfl) ?_
    repeat (go_big_quiet_step ((go_at_call 30; exact Calls.quiet_of_same (HH.out _))))
    refine wpQuiet_nil ?_
    intro _ hw'
    obtain ⟨nq, hw''⟩ := hw'
    subst hw''
    go_wp2
    go_ret2
    exact ⟨rfl, hbel.trans (drewBelow _ _ _)⟩
  | true =>
    refine wp_region_quiet_lit (by kernel_rfl) (by kernel_rfl) ?_
    repeat (go_big_quiet_step ((go_at_call 30; exact Calls.quiet_of_same (HH.out _))))
    refine wpQuiet_val rfl (.agg (us.map (Value.int .u8)).toArray) ?_ ?_
    · rintro w' ⟨n, rfl⟩
      exact exec_loadB 22 _ rfl fb 66 rfl CV 37 32 (h2.drew n) _ Trym.underlying22 rfl Trym.size22 (by omega) _ hcp
    refine wpQuiet_val rfl (.agg (us.map (Value.int .u8)).toArray) ?_ ?_
    · rintro w' ⟨n, rfl⟩
      exact exec_loadB 22 _ rfl g1 0 rfl _ 22 32 (hB1.drew n) _ Trym.underlying22 rfl Trym.size22 (by simp [hu]) _ (by rw [List.drop_zero, List.take_of_length_le (by simp [hu])])
    refine wpQuiet_val rfl (.bool false) ?_ ?_
    · rintro w' ⟨n, rfl⟩
      have hq := run_neq_arr (P := Trym.prog) (w2.drewN n) 22 5 32 .u8 Trym.underlying22 Trym.underlying5 Trym.size5 us us hu hu
      exact exec_neq 22 _ _ 22 rfl _ _ rfl rfl _ (by rw [hq]; simp) (by kernel_rfl)
    refine wpQuiet_val rfl (.bool false) (fun w' _ => rfl) ?_
    refine wpQuiet_nil ?_
    intro _ hw'
    obtain ⟨nq, hw''⟩ := hw'
    subst hw''
    go_frame
    go_wp2
    go_ret2
    exact ⟨rfl, hbel.trans (drewBelow _ _ _)⟩
end Go.Proofs.Qxb6000998aMods.J
