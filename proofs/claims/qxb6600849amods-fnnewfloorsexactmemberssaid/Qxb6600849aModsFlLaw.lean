import Derived.Test.Qxb6600849aModsFlTop
import Derived.Laws.CopyOwn
import Derived.Deep.DeepCutAuto
namespace Go.Proofs.Qxb6600849aMods.Fl
open Go.RowKit Go.Proofs.Qxb6600849aMods.L

/-- A row of numbers that came in. -/
def InRow (w : World) (a : Option Addr) (cap : Nat) (zs : List Int) : Prop := (a = none ∧ zs = [] ∧ cap = 0) ∨ ∃ x, a = some x ∧ ∀ j y, zs[j]? = some y → w.cell? (x.add j) = some (.int .u64 y)

theorem splice_all (zs : List Int) : splice (List.replicate zs.length (Value.int .u64 0)) 0 (zs.map (Value.int .u64)) = zs.map (Value.int .u64) := by
  unfold splice
  rw [List.take_zero, List.nil_append, List.drop_of_length_le (by simp), List.append_nil]

set_option maxRecDepth 100000 in
theorem law_big (a : Option Addr) (n cap : Nat) (x : Value) (w : World) (h : 4096 < n) : Calls Trym.prog 6 #[.slice a n cap, x] w fun e w' => e = .returned (.bool true) ∧ w' = w := by
  by_cases hb : 1048576 < n
  · go_enter Trym.func6, Trym.ntmps6
    go_wp2_with fail
    refine (guard_big a n cap x w hb).mono ?_
    rintro e w ⟨rfl, rfl⟩
    go_wp2
    go_ret
    exact ⟨rfl, rfl⟩
  · go_enter Trym.func6, Trym.ntmps6
    go_wp2_with fail
    refine (guard_small a n cap x w (by omega)).mono ?_
    rintro e w ⟨rfl, rfl⟩
    go_wp2
    go_ret
    exact ⟨rfl, rfl⟩

theorem wpQuiet_skip {P : Program} {ops : Array Oper} {C : World → Prop} {Q : Act → Prop} {o : Oper} {rest : List Oper} {a : Act} (hw : Region.wanted o (yielded ops a.tmps) = false) (k : wpQuiet P ops C Q rest (a.put o.dst undef)) : wpQuiet P ops C Q (o :: rest) a :=
  wpQuiet_step fun K hK => by
    rw [if_neg (by rw [hw]; decide)]
    exact hK _ k
theorem wp_region_quietC {P : Program} {id : Nat} {Q : Exit → Act → World → Prop} {a : Act} {w : World} {l : List Oper} (C : World → Prop) (hm : P.follows .mixedOrders = true) (hB : Region.lexB .any l.toArray = true) (hC : C w.drew)
    (h : wpQuiet P l.toArray C (fun a' => ∀ w', C w' → Q .normal a' w') l a) : (Code.region id l.toArray true).wp P Q a w :=
  wp_region_quiet (C := C) hm hB hC (by simpa using h)
theorem exec_pick {P : Program} {o : Oper} {a : Act} {w : World} (x y z : Operand) (ho : o.op = .pick x y z) (b : Bool) (v : Value) (hx : a.eval x = .bool b) (hv : (if b then a.eval y else a.eval z) = v) : (execOp a.eval o).run P w = .ok (.value v) w := by
  cases b <;> simp_all [execOp, go_sem]
theorem exec_neq_int {P : Program} {o : Oper} {a : Act} {w : World} (k : IntKind) (t : TypeId) (x y : Operand) (u : TypeId) (ho : o.op = .binOp .neq t x y u) (m n : Int) (hx : a.eval x = .int k m) (hy : a.eval y = .int k n) (r : Bool) (hr : (m != n) = r) :
    (execOp a.eval o).run P w = .ok (.value (.bool r)) w := by
  subst hr
  simp [execOp, ho, hx, hy, eqGuard, binOp_neq]
theorem exec_eql_int {P : Program} {o : Oper} {a : Act} {w : World} (k : IntKind) (t : TypeId) (x y : Operand) (u : TypeId) (ho : o.op = .binOp .eql t x y u) (m n : Int) (hx : a.eval x = .int k m) (hy : a.eval y = .int k n) (r : Bool) (hr : (m == n) = r) :
    (execOp a.eval o).run P w = .ok (.value (.bool r)) w := by
  subst hr
  simp [execOp, ho, hx, hy, eqGuard, binOp_eql]
theorem exec_sub1 {o : Oper} {a : Act} {w : World} (x : Operand) (n : Int) (ho : o.op = .binOp .sub 3 x (.const (.int .i64 1)) 3) (t : Nat) (ht : t ≤ 4096) (hx : a.eval x = .int .i64 n) (hn : n = (t : Int) + 1) : (execOp a.eval o).run Trym.prog w = .ok (.value (.int .i64 t)) w := by
  subst hn
  have h1 : IntKind.i64.wrap ((t : Int) + 1 - 1) = t := by rw [IntKind.wrap_i64]; omega
  have h : (binOp .sub 3 (.int .i64 ((t : Int) + 1)) (.int .i64 1)).run Trym.prog w = .ok (.int .i64 t) w := by
    simp [go_sem]
    simpa using h1
  have hy : a.eval (.const (.int .i64 1)) = .int .i64 1 := rfl
  have hg : (eqGuard .sub 3 x (.const (.int .i64 1)) (.int .i64 ((t : Int) + 1)) (.int .i64 1)).run Trym.prog w = .ok () w := by simp [eqGuard]
  simp only [execOp, ho, hx, hy]
  simp [h, hg]

set_option maxHeartbeats 8000000 in
set_option maxRecDepth 100000 in
theorem law_small (a0 : Option Addr) (cap : Nat) (zs : List Int) (m : Int) (w : World) (hl : zs.length ≤ 4096) (hR : InRow w a0 cap zs) :
    Calls Trym.prog 6 #[.slice a0 zs.length cap, .int .u64 m] w fun e w' => e = .returned (.bool true) ∧ Below w.heap.size w w' := by
  have HR : Hid (InRow w a0 cap zs) := hR
  clear hR
  have hn2 := fun (w : World) => run_neq_slice_nil_any (P := Trym.prog) w 31 28 a0 zs.length cap 0 0 Trym.underlying31
  go_enter Trym.func6, Trym.ntmps6
  go_wp2_with fail
  refine (guard_small a0 zs.length cap _ w (by omega)).mono ?_
  rintro e w ⟨rfl, rfl⟩
  go_upto_if 29 with fail
  go_cut [0, 5] (fun s0 s5 wc => ∃ a : Option Addr, s0 = .slice a zs.length zs.length ∧ Row 28 wc a zs ∧ Below w.heap.size w wc)
  case first =>
    rcases HR.out with ⟨rfl, rfl, rfl⟩ | ⟨x, rfl, hx⟩
    · clear HR
      go_wp2
      go_meet
      exact ⟨none, rfl, .inl ⟨rfl, rfl⟩, Below.refl _ _⟩
    · have HX : Hid (∀ j y, zs[j]? = some y → w.cell? (x.add j) = some (.int .u64 y)) := hx
      clear HR hx
      obtain ⟨X, hX⟩ : ∃ X, X = zs.map (Value.int .u64) := ⟨_, rfl⟩
      have HXX : Hid (X = zs.map (Value.int .u64)) := hX
      have hXl : X.length = zs.length := by rw [hX]; simp
      clear hX
      go_wp2_with (first
        | (at_make; refine wpList_makeB rfl _ _ 31 rfl 28 (.int .u64 0) [.int .u64 0] rfl 1 8 rfl Trym.underlying31 Trym.info28 _ _ _ _ zs.length rfl rfl rfl rfl (by omega) (by unfold maxLen; omega) ?_; intro gd w1 hgd hBd hgr1; have hb1 := grownBelow hgr1; replace hBd : Blk w1 gd (List.replicate zs.length (Value.int .u64 0)) 28 := by first | exact hBd | simpa [flat_one_cells] using hBd)
        | ((with_reducible show wpList _ _ _ (Oper.mk _ (Op.call _) _ _ _ _ :: _) _ _); refine wpList_copy_splice rfl _ _ 31 31 rfl 28 Trym.underlying31 Trym.size28 _ _ _ _ _ _ rfl rfl gd 0 (List.replicate zs.length (Value.int .u64 0)) 28 hBd X (by rw [hXl]; exact (Nat.min_self _).symm) (fun _ => ⟨rfl, x, rfl, fun j v hv => by
              rw [HXX.out, List.getElem?_map] at hv
              cases hz : zs[j]? with
              | none => rw [hz] at hv; cases hv
              | some y =>
                rw [hz] at hv
                cases hv
                have h0 := HX.out j y hz
                exact (hb1.cell (World.block_lt_of_cell? w _ h0)).trans h0⟩) (by simp [hXl]) (by rw [HXX.out]; exact ints_oneCell .u64 zs) w.heap.size w hb1 hgd ?_; intro w2 hB2 hb2))
      go_meet
      have hB3 := hB2.out
      rw [HXX.out, splice_all] at hB3
      exact ⟨_, rfl, .inr ⟨gd, rfl, hB3⟩, hb2⟩
  case rest =>
    obtain ⟨a, rfl, hRow, hbc⟩ := hcut
    clear HR hn2
    go_wp2_with fail
    refine (zzNew_any a zs wc hl hRow).mono ?_
    rintro e w1 ⟨p, rfl, hF, hb1⟩
    have hRow1 := hRow.all hb1
    have hbel1 : Below w.heap.size w w1 := hbc.trans (hb1.mono hbc.size)
    clear hRow hbc hb1
    have HROW : Hid (Row 28 w1 a zs) := hRow1
    have HF : Hid (Floors w1 p zs) := hF
    clear hRow1 hF
    go_wp2_with (first
      | (at_make; refine wpList_makeB rfl _ _ 31 rfl 28 (.int .u64 0) [.int .u64 0] rfl 1 8 rfl Trym.underlying31 Trym.info28 _ _ _ _ zs.length rfl rfl rfl rfl (by omega) (by unfold maxLen; omega) ?_; intro gs w2 hgs hBs hgr2)
      | fail)
    replace hBs : Blk w2 gs (partC zs 0) 28 := by rw [partC_zero]; first | exact hBs | simpa [flat_one_cells] using hBs
    have hb2 := grownBelow hgr2
    go_loopw [8] (fun i wr => ∃ k : Nat, k ≤ zs.length ∧ i = .int .i64 k ∧ Blk wr gs (partC zs k) 28 ∧ Below w1.heap.size w1 wr)
      (fun i _ => zs.length - (intOf i).toNat)
    case atStart => exact ⟨0, Nat.zero_le _, rfl, hBs, hb2⟩
    case round =>
      obtain ⟨k, hk, rfl, hBr, hbr⟩ := hrel
      clear hBs hgr2 hb2
      by_cases hlt : k < zs.length
      · obtain ⟨x, hx⟩ : ∃ x, zs[k]? = some x := ⟨_, List.getElem?_eq_getElem hlt⟩
        obtain ⟨g, rfl, hc⟩ := HROW.out.at hx
        have hcr : wr.cell? ⟨g, k, none⟩ = some (.int .u64 x) := (hbr.cell (World.block_lt_of_cell? w1 _ hc)).trans hc
        have HX : Hid (zs[k]? = some x) := hx
        clear hx hc
        go_wp2_with (first | ((with_reducible show wpList _ _ _ (Oper.mk _ (Op.store 28 _ _) _ _ _ _ :: _) _ _); refine wpList_store1B rfl 28 _ _ rfl gs k rfl (.int .u64 x) rfl rfl rfl _ 28 hBr Trym.size28 (by rw [partC_length zs k hk]; exact hlt) ?_; intro w4 hB4 hg4) | fail)
        rw [partC_step zs k x HX.out] at hB4
        go_roundw
        case rel => exact ⟨k + 1, by omega, by go_num, hB4, hbr.grown hg4 hbr.size (fun q hq => by cases hq; exact hgs)⟩
        case measure => simp [intOf]; omega
      · obtain rfl : k = zs.length := by omega
        rw [partC_all] at hBr
        go_wp2
        go_loopw [9] (fun i wr => ∃ (k : Nat) (A R : List Int), i = .int .i64 k ∧ Blk wr gs ((A ++ R).map (Value.int .u64)) 28 ∧ Srt A ∧ (A ++ R).Perm zs ∧ (A.length = k ∨ zs.length = 0) ∧ 1 ≤ k ∧ k ≤ zs.length + 1 ∧ Below w1.heap.size w1 wr)
          (fun i _ => zs.length - (intOf i).toNat)
        case atStart =>
          cases zs with
          | nil => exact ⟨1, [], [], rfl, hBr, List.Pairwise.nil, List.Perm.refl _, .inr rfl, Nat.le_refl _, by simp, hbr⟩
          | cons x r => exact ⟨1, [x], r, rfl, hBr, by simp [Srt], List.Perm.refl _, .inl rfl, Nat.le_refl _, by simp, hbr⟩
        case round =>
          obtain ⟨wo, rfl⟩ : ∃ wo : World, wo = wr := ⟨_, rfl⟩
          obtain ⟨k, A, R, rfl, hBo, hsA, hperm, hAk, hk1, hk2, hbo⟩ := hrel
          clear hBr hbr
          have hlen := hperm.length_eq
          rw [List.length_append] at hlen
          by_cases hlt : k < zs.length
          · have hAl : A.length = k := by omega
            obtain ⟨x, R', rfl⟩ : ∃ x R', R = x :: R' := by
              cases R with
              | nil => simp at hlen; omega
              | cons x R' => exact ⟨x, R', rfl⟩
            have hcx : wo.cell? ⟨gs, k, none⟩ = some (.int .u64 x) := by
              rw [hBo.cell, List.getElem?_map, List.getElem?_append_right (by omega), hAl, Nat.sub_self]; rfl
            have HSA : Hid (Srt A) := hsA
            have HPM : Hid ((A ++ x :: R').Perm zs) := hperm
            clear hsA hperm hAk
            go_wp2
            go_loopw [11] (fun i wr => ∃ (A' B : List Int) (y : Int), i = .int .i64 A'.length ∧ Blk wr gs ((A' ++ y :: (B ++ R')).map (Value.int .u64)) 28 ∧ A' ++ B = A ∧ (∀ q ∈ B, x < q) ∧ Below w1.heap.size w1 wr)
              (fun i _ => (intOf i).toNat)
            case atStart => exact ⟨A, [], x, by rw [hAl], hBo, by simp, by simp, hbo⟩
            case round =>
              obtain ⟨A', B, y, rfl, hBr, hAB, hBx, hbr⟩ := hrel
              have HBX : Hid (∀ q ∈ B, x < q) := hBx
              have HAB : Hid (A' ++ B = A) := hAB
              have hABl : A'.length + B.length = A.length := by rw [← hAB]; simp
              have hBl : ((A' ++ y :: (B ++ R')).map (Value.int .u64)).length = zs.length := by simp at hlen ⊢; omega
              have FIN : Hid ((A' = [] ∨ ∃ A'' b, A' = A'' ++ [b] ∧ b ≤ x) → Srt (A' ++ x :: B) ∧ ((A' ++ x :: B) ++ R').Perm zs) := by
                intro hA
                refine ⟨insert_sorted (by rw [HAB.out]; exact HSA.out) HBX.out hA, ?_⟩
                refine List.Perm.trans ?_ HPM.out
                rw [← HAB.out]
                simp only [List.append_assoc, List.cons_append]
                refine List.Perm.append_left _ ?_
                exact (List.perm_middle (a := x) (l₁ := B) (l₂ := R')).symm
              have hset : ∀ v : Int, ((A' ++ y :: (B ++ R')).map (Value.int .u64)).set A'.length (.int .u64 v) = ((A' ++ v :: (B ++ R')).map (Value.int .u64)) := by
                intro v
                simp
              have HSET : Hid (∀ v : Int, ((A' ++ y :: (B ++ R')).map (Value.int .u64)).set A'.length (.int .u64 v) = ((A' ++ v :: (B ++ R')).map (Value.int .u64))) := hset
              clear hBx hAB hset hBo hbo hcx
              clear wo
              have hA4 : A'.length ≤ 4096 := by omega
              rcases List.eq_nil_or_concat A' with h0 | ⟨A'', b, h0⟩
              · obtain ⟨C, hC⟩ : ∃ C, C = (A' ++ y :: (B ++ R')).map (Value.int .u64) := ⟨_, rfl⟩
                rw [← hC] at hBr hBl HSET
                have hj0 : A'.length = 0 := by rw [h0]; rfl
                have HJ0 : Hid (A'.length = 0) := hj0
                have HFIN := FIN.out (.inl h0)
                have HF2 : Hid (Srt (A' ++ x :: B) ∧ ((A' ++ x :: B) ++ R').Perm zs) := HFIN
                rw [hj0]
                clear h0 hC FIN HFIN hj0
                go_wp2_with (first
                  | ((with_reducible show wpList _ _ _ (Oper.mk _ (Op.store 28 _ _) _ _ _ _ :: _) _ _); refine wpList_store1B rfl 28 _ _ rfl gs 0 rfl (.int .u64 x) rfl rfl rfl _ 28 hBr Trym.size28 (by omega) ?_; intro w4 hB4 hg4)
                  | fail)
                have hB5 : Blk w4 gs (((A' ++ x :: B) ++ R').map (Value.int .u64)) 28 := by
                  have := HSET.out x
                  rw [HJ0.out] at this
                  rw [this] at hB4
                  simpa using hB4
                go_roundw
                case rel => exact ⟨k + 1, A' ++ x :: B, R', by go_num, hB5, HF2.out.1, HF2.out.2, .inl (by simp; omega), by omega, by omega, hbr.grown hg4 hbr.size (fun q hq => by cases hq; exact hgs)⟩
                case measure => simp [intOf]; omega
              · rw [List.concat_eq_append] at h0
                have hbc2 : wr.cell? ⟨gs, A''.length, none⟩ = some (.int .u64 b) := by
                  rw [hBr.cell, h0, List.getElem?_map]
                  simp
                have ht : A'.length = A''.length + 1 := by rw [h0]; simp
                obtain ⟨t, htt⟩ : ∃ t, t = A''.length := ⟨_, rfl⟩
                rw [← htt] at hbc2 ht
                obtain ⟨C, hC⟩ : ∃ C, C = (A' ++ y :: (B ++ R')).map (Value.int .u64) := ⟨_, rfl⟩
                rw [← hC] at hBr hBl HSET
                have HT : Hid (A'.length = t + 1) := ht
                have HTT : Hid (t = A''.length) := htt
                have H0 : Hid (A' = A'' ++ [b]) := h0
                have ht4 : t < zs.length := by omega
                have ht5 : t + 1 < zs.length := by
                  simp at hlen
                  omega
                rw [ht, show ((t + 1 : Nat) : Int) = (t : Int) + 1 from rfl]
                by_cases hxb : x < b
                · clear FIN h0 ht htt hC
                  go_wp2_with (first
                    | ((with_reducible show wpList _ _ _ (Oper.mk _ (Op.store 28 _ _) _ _ _ _ :: _) _ _); refine wpList_store1B rfl 28 _ _ rfl gs (t + 1) rfl (.int .u64 b) rfl rfl rfl _ 28 hBr Trym.size28 (by omega) ?_; intro w4 hB4 hg4)
                    | fail)
                  have hB5 : Blk w4 gs ((A'' ++ b :: (b :: B ++ R')).map (Value.int .u64)) 28 := by
                    have h1 := HSET.out b
                    rw [HT.out] at h1
                    rw [h1, H0.out] at hB4
                    simpa using hB4
                  go_roundw
                  case rel => exact ⟨A'', b :: B, b, by rw [← HTT.out], hB5, by rw [← HAB.out, H0.out]; simp, fun q hq => by rcases List.mem_cons.1 hq with rfl | h; exact hxb; exact HBX.out q h, hbr.grown hg4 hbr.size (fun q hq => by cases hq; exact hgs)⟩
                  case measure => simp [intOf]
                · have HFIN := FIN.out (.inr ⟨A'', b, h0, by omega⟩)
                  have HF2 : Hid (Srt (A' ++ x :: B) ∧ ((A' ++ x :: B) ++ R').Perm zs) := HFIN
                  clear FIN HFIN h0 ht htt hC
                  go_wp2_with (first
                    | ((with_reducible show wpList _ _ _ (Oper.mk _ (Op.store 28 _ _) _ _ _ _ :: _) _ _); refine wpList_store1B rfl 28 _ _ rfl gs (t + 1) rfl (.int .u64 x) rfl rfl rfl _ 28 hBr Trym.size28 (by omega) ?_; intro w4 hB4 hg4)
                    | fail)
                  have hB5 : Blk w4 gs (((A' ++ x :: B) ++ R').map (Value.int .u64)) 28 := by
                    have h1 := HSET.out x
                    rw [HT.out] at h1
                    rw [h1] at hB4
                    simpa using hB4
                  go_roundw
                  case rel => exact ⟨k + 1, A' ++ x :: B, R', by go_num, hB5, HF2.out.1, HF2.out.2, .inl (by simp; omega), by omega, by omega, hbr.grown hg4 hbr.size (fun q hq => by cases hq; exact hgs)⟩
                  case measure => simp [intOf]; omega
          · obtain ⟨S, hS⟩ : ∃ S, S = A ++ R := ⟨_, rfl⟩
            have hsS : Srt S := by
              have hR0 : R = [] := by
                rcases hAk with h | h
                · exact List.eq_nil_of_length_eq_zero (by omega)
                · exact List.eq_nil_of_length_eq_zero (by omega)
              rw [hS, hR0, List.append_nil]; exact hsA
            have hSl : S.length = zs.length := by rw [hS, List.length_append]; exact hlen
            rw [← hS] at hBo hperm
            have HSS : Hid (Srt S) := hsS
            have HPM : Hid (S.Perm zs) := hperm
            clear hsS hperm hsA hS hAk hlen
            clear A R
            go_wp2
            go_loopw [12, 13] (fun c i wr => ∃ k : Nat, k ≤ zs.length ∧ i = .int .i64 k ∧ c = .int .i64 (keysOf (S.take k)).length ∧ Below wo.heap.size wo wr)
              (fun _ i _ => zs.length - (intOf i).toNat)
            case atStart => exact ⟨0, Nat.zero_le _, rfl, by simp [keysOf], Below.refl _ _⟩
            case round =>
              obtain ⟨k, hk, rfl, rfl, hbr⟩ := hrel
              have hBr := hBo.all hbr
              have hkl : (keysOf (S.take k)).length ≤ 4096 := Nat.le_trans (keysOf_le _) (by rw [List.length_take]; omega)
              by_cases hlt : k < zs.length
              · obtain ⟨x, hx⟩ : ∃ x, S[k]? = some x := ⟨_, List.getElem?_eq_getElem (by omega)⟩
                have HX : Hid (S[k]? = some x) := hx
                have HTK : Hid (S.take (k + 1) = S.take k ++ [x]) := take_snoc S k x hx
                clear hx
                by_cases hk0 : k = 0
                · have hnew : (keysOf (S.take (k + 1))).length = (keysOf (S.take k)).length + 1 := by
                    rw [HTK.out]
                    exact keysOf_new (by rw [hk0]; simp)
                  obtain ⟨c0, hc0⟩ : ∃ c0, c0 = (keysOf (S.take k)).length := ⟨_, rfl⟩
                  rw [← hc0] at hnew hkl ⊢
                  have HNEW : Hid ((keysOf (S.take (k + 1))).length = c0 + 1) := hnew
                  clear hnew hc0
                  subst hk0
                  go_wp2
                  go_quiet (fail)
                  have hbq2 : Below wo.heap.size wo (wr.drewN nq) := hbr.trans ⟨rfl, rfl, rfl, Nat.le_refl _, fun _ _ => rfl⟩
                  clear hbr hBr
                  go_wp2
                  go_roundw
                  case rel => exact ⟨0 + 1, by omega, by go_num, by rw [HNEW.out]; go_num, hbq2⟩
                  case measure => simp [intOf]; omega
                · obtain ⟨t, rfl⟩ : ∃ t, k = t + 1 := ⟨k - 1, by omega⟩
                  obtain ⟨y, hy⟩ : ∃ y, S[t]? = some y := ⟨_, List.getElem?_eq_getElem (by omega)⟩
                  have CX : Hid ((S.map (Value.int .u64))[0 + (t + 1) * 1]? = some (.int .u64 x)) := by
                    show _ = _
                    rw [Nat.zero_add, Nat.mul_one, List.getElem?_map, HX.out]; rfl
                  have CY : Hid ((S.map (Value.int .u64))[0 + t * 1]? = some (.int .u64 y)) := by
                    show _ = _
                    rw [Nat.zero_add, Nat.mul_one, List.getElem?_map, hy]; rfl
                  clear hk0
                  by_cases hxy : x = y
                  · have HOLD : Hid ((keysOf (S.take (t + 1 + 1))).length = (keysOf (S.take (t + 1))).length) := by
                      show _ = _
                      rw [HTK.out]
                      exact keysOf_old (by rw [hxy]; exact old_at hy)
                    clear hy
                    go_wp2
                    refine wp_region_quietC (fun w' => Below wr.heap.size wr w') (by kernel_rfl) (by kernel_rfl) (Below.refl _ _).drew ?_
                    refine wpQuiet_mv _ _ rfl rfl rfl ?_
                    go_frame
                    refine wpQuiet_val rfl (.bool false) (fun w' _ => exec_eql_int .i64 3 _ _ 3 rfl ((t + 1 : Nat) : Int) 0 rfl rfl false (by simp; omega)) ?_
                    go_frame
                    refine wpQuiet_mv _ _ rfl rfl rfl ?_
                    go_frame
                    refine wpQuiet_mv _ _ rfl rfl rfl ?_
                    go_frame
                    refine wpQuiet_mv _ _ rfl rfl rfl ?_
                    go_frame
                    refine wpQuiet_val rfl (.pointer (some ⟨gs, 0 + (t + 1) * 1, none⟩)) (fun w' _ => exec_indexB 31 28 _ _ rfl gs 0 _ _ rfl .i64 (t + 1) rfl hlt Trym.underlying31 1 Trym.size28) ?_
                    go_frame
                    refine wpQuiet_val rfl (.int .u64 x) (fun w' hw' => exec_load1B 28 _ rfl gs _ rfl _ 28 (hBr.all hw') _ Trym.underlying28 rfl _ CX.out) ?_
                    go_frame
                    refine wpQuiet_mv _ _ rfl rfl rfl ?_
                    go_frame
                    refine wpQuiet_mv _ _ rfl rfl rfl ?_
                    go_frame
                    refine wpQuiet_val rfl (.int .i64 t) (fun w' _ => exec_sub1 _ _ rfl t (by omega) rfl rfl) ?_
                    go_frame
                    refine wpQuiet_val rfl (.pointer (some ⟨gs, 0 + t * 1, none⟩)) (fun w' _ => exec_indexB 31 28 _ _ rfl gs 0 _ _ rfl .i64 t rfl (by omega) Trym.underlying31 1 Trym.size28) ?_
                    go_frame
                    refine wpQuiet_val rfl (.int .u64 y) (fun w' hw' => exec_load1B 28 _ rfl gs _ rfl _ 28 (hBr.all hw') _ Trym.underlying28 rfl _ CY.out) ?_
                    go_frame
                    refine wpQuiet_val rfl (.bool false) (fun w' _ => exec_neq_int .u64 28 _ _ 28 rfl x y rfl rfl false (by simp [hxy])) ?_
                    go_frame
                    refine wpQuiet_val rfl (.bool false) (fun w' hw' => exec_pick _ _ _ rfl false _ rfl rfl) ?_
                    go_frame
                    refine wpQuiet_nil ?_
                    intro wq hbq
                    have hbq2 : Below wo.heap.size wo wq := hbr.trans (hbq.mono hbr.size)
                    clear hbq hbr hBr
                    go_wp2
                    go_roundw
                    case rel => exact ⟨t + 1 + 1, by omega, by go_num, by rw [HOLD.out], hbq2⟩
                    case measure => simp [intOf]; omega
                  · have HNEW : Hid ((keysOf (S.take (t + 1 + 1))).length = (keysOf (S.take (t + 1))).length + 1) := by
                      show _ = _
                      rw [HTK.out]
                      exact keysOf_new (new_at HSS.out HX.out hy hxy)
                    clear hy
                    go_wp2
                    refine wp_region_quietC (fun w' => Below wr.heap.size wr w') (by kernel_rfl) (by kernel_rfl) (Below.refl _ _).drew ?_
                    refine wpQuiet_mv _ _ rfl rfl rfl ?_
                    go_frame
                    refine wpQuiet_val rfl (.bool false) (fun w' _ => exec_eql_int .i64 3 _ _ 3 rfl ((t + 1 : Nat) : Int) 0 rfl rfl false (by simp; omega)) ?_
                    go_frame
                    refine wpQuiet_mv _ _ rfl rfl rfl ?_
                    go_frame
                    refine wpQuiet_mv _ _ rfl rfl rfl ?_
                    go_frame
                    refine wpQuiet_mv _ _ rfl rfl rfl ?_
                    go_frame
                    refine wpQuiet_val rfl (.pointer (some ⟨gs, 0 + (t + 1) * 1, none⟩)) (fun w' _ => exec_indexB 31 28 _ _ rfl gs 0 _ _ rfl .i64 (t + 1) rfl hlt Trym.underlying31 1 Trym.size28) ?_
                    go_frame
                    refine wpQuiet_val rfl (.int .u64 x) (fun w' hw' => exec_load1B 28 _ rfl gs _ rfl _ 28 (hBr.all hw') _ Trym.underlying28 rfl _ CX.out) ?_
                    go_frame
                    refine wpQuiet_mv _ _ rfl rfl rfl ?_
                    go_frame
                    refine wpQuiet_mv _ _ rfl rfl rfl ?_
                    go_frame
                    refine wpQuiet_val rfl (.int .i64 t) (fun w' _ => exec_sub1 _ _ rfl t (by omega) rfl rfl) ?_
                    go_frame
                    refine wpQuiet_val rfl (.pointer (some ⟨gs, 0 + t * 1, none⟩)) (fun w' _ => exec_indexB 31 28 _ _ rfl gs 0 _ _ rfl .i64 t rfl (by omega) Trym.underlying31 1 Trym.size28) ?_
                    go_frame
                    refine wpQuiet_val rfl (.int .u64 y) (fun w' hw' => exec_load1B 28 _ rfl gs _ rfl _ 28 (hBr.all hw') _ Trym.underlying28 rfl _ CY.out) ?_
                    go_frame
                    refine wpQuiet_val rfl (.bool true) (fun w' _ => exec_neq_int .u64 28 _ _ 28 rfl x y rfl rfl true (by simp [hxy])) ?_
                    go_frame
                    refine wpQuiet_val rfl (.bool true) (fun w' hw' => exec_pick _ _ _ rfl false _ rfl rfl) ?_
                    go_frame
                    refine wpQuiet_nil ?_
                    intro wq hbq
                    have hbq2 : Below wo.heap.size wo wq := hbr.trans (hbq.mono hbr.size)
                    clear hbq hbr hBr
                    go_wp2
                    go_roundw
                    case rel => exact ⟨t + 1 + 1, by omega, by go_num, by rw [HNEW.out]; go_num, hbq2⟩
                    case measure => simp [intOf]; omega
              · obtain rfl : k = zs.length := by omega
                have hcnt : (keysOf (S.take zs.length)).length = (keysOf zs).length := by
                  rw [← hSl, List.take_length]
                  exact keysOf_perm HPM.out
                have hbw : Below w1.heap.size w1 wr := hbo.trans (hbr.mono hbo.size)
                have hkz : (keysOf zs).length ≤ 4096 := Nat.le_trans (keysOf_le _) hl
                have HFr : Hid (Floors wr p zs) := HF.out.all hbw
                have HRr : Hid (Row 28 wr a zs) := HROW.out.all hbw
                have hbel : Below w.heap.size w wr := hbel1.trans (hbw.mono hbel1.size)
                rw [hcnt]
                clear hcnt hbw hbr hBr hBo hbo hbel1 HF HROW hkl
                obtain ⟨wt, rfl⟩ : ∃ wt : World, wt = wr := ⟨_, rfl⟩
                go_wp2_with fail
                refine (reachedLen HFr.out).mono ?_
                rintro e wt ⟨rfl, rfl⟩
                go_wp2_with fail
                refine (leftLen HFr.out).mono ?_
                rintro e wt ⟨rfl, rfl⟩
                go_wp2_with fail
                refine (floorLen HFr.out).mono ?_
                rintro e wt ⟨rfl, rfl⟩
                go_wp2
                go_loopw [14] (fun i wr => ∃ k : Nat, k ≤ zs.length ∧ i = .int .i64 k ∧ wr = wt)
                  (fun i _ => zs.length - (intOf i).toNat)
                case atStart => exact ⟨0, Nat.zero_le _, rfl, rfl⟩
                case round =>
                  obtain ⟨k, hk, rfl, rfl⟩ := hrel
                  by_cases hlt : k < zs.length
                  · obtain ⟨x, hx⟩ : ∃ x, zs[k]? = some x := ⟨_, List.getElem?_eq_getElem hlt⟩
                    obtain ⟨g, rfl, hc⟩ := HRr.out.at hx
                    have HRE := reached_any HFr.out x
                    rw [decide_eq_true (List.mem_of_getElem? hx)] at HRE
                    clear hx
                    go_wp2_with fail
                    refine Calls.mono HRE ?_
                    clear HRE
                    rintro e wr ⟨rfl, rfl⟩
                    go_wp2
                    go_roundw
                    case rel => exact ⟨k + 1, by omega, by go_num, trivial⟩
                    case measure => simp [intOf]; omega
                  · obtain ⟨wt, rfl⟩ : ∃ wt : World, wt = wr := ⟨_, rfl⟩
                    go_wp2
                    go_loopw [17, 18] (fun f i wr => ∃ k : Nat, k ≤ zs.length ∧ i = .int .i64 k ∧ f = .bool (decide (m ∈ zs.take k)) ∧ wr = wt)
                      (fun _ i _ => zs.length - (intOf i).toNat)
                    case atStart => exact ⟨0, Nat.zero_le _, rfl, by simp, rfl⟩
                    case round =>
                      obtain ⟨k, hk, rfl, rfl, rfl⟩ := hrel
                      by_cases hlt : k < zs.length
                      · obtain ⟨x, hx⟩ : ∃ x, zs[k]? = some x := ⟨_, List.getElem?_eq_getElem hlt⟩
                        obtain ⟨g, rfl, hc⟩ := HRr.out.at hx
                        have HTK : Hid (zs.take (k + 1) = zs.take k ++ [x]) := take_snoc zs k x hx
                        obtain ⟨f, hf⟩ : ∃ f, f = decide (m ∈ zs.take k) := ⟨_, rfl⟩
                        rw [← hf]
                        have HFF : Hid (f = decide (m ∈ zs.take k)) := hf
                        clear hx hf
                        by_cases hxm : x = m
                        · have HN : Hid (decide (m ∈ zs.take (k + 1)) = true) := by
                            show _ = _
                            rw [HTK.out, hxm]; simp
                          go_wp2
                          go_roundw
                          case rel => exact ⟨k + 1, by omega, by go_num, by rw [HN.out], trivial⟩
                          case measure => simp [intOf]; omega
                        · have HN : Hid (decide (m ∈ zs.take (k + 1)) = f) := by
                            show _ = _
                            have hmx : ¬ m = x := fun e => hxm e.symm
                            rw [HTK.out, HFF.out]
                            simp [hmx]
                          go_wp2
                          go_roundw
                          case rel => exact ⟨k + 1, by omega, by go_num, by rw [HN.out], trivial⟩
                          case measure => simp [intOf]; omega
                      · obtain rfl : k = zs.length := by omega
                        have HRE := reached_any HFr.out m
                        rw [List.take_length]
                        obtain ⟨f, hf⟩ : ∃ f, f = decide (m ∈ zs) := ⟨_, rfl⟩
                        rw [← hf] at HRE ⊢
                        clear hf
                        go_wp2_with fail
                        refine Calls.mono HRE ?_
                        clear HRE
                        rintro e wr ⟨rfl, rfl⟩
                        cases f with
                        | true =>
                          go_wp2
                          go_ret
                          exact ⟨rfl, hbel⟩
                        | false =>
                          go_wp2
                          go_ret
                          exact ⟨rfl, hbel⟩
end Go.Proofs.Qxb6600849aMods.Fl
