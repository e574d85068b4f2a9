import Derived.Test.Qxb6603070aModsDNew
import Derived.Test.Qxb6603070aModsDOut
namespace Go.Proofs.Qxb6603070aMods.M
open Go.RowKit Go.Proofs.Qxb6603070aMods.L

theorem exec_lookT {o : Oper} {a : Act} {w : World} (x y : Operand) (ho : o.op = .lookup 27 x y true) (m : Nat) (p : P2) (hx : a.eval x = .map (some m)) (hy : a.eval y = KP p) (u : Value) (h : (Instr.lookup 27 (.map (some m)) (KP p) true).run Trym.prog w = .ok u w) :
    (execOp a.eval o).run Trym.prog w = .ok (.value u) w := by
  simp only [execOp, ho, hx, hy]
  simp [h]

set_option maxRecDepth 100000 in
set_option maxHeartbeats 8000000 in
/-- diff. -/
theorem diff_any (a b : Option Addr) (c d : Nat) (O N : List P2) (w : World) (hlo : O.length ≤ 65536) (hln : N.length ≤ 65536) (hO : Src w a c O) (hN : Src w b d N) :
    Calls Trym.prog 37 #[.slice a O.length c, .slice b N.length d] w fun e w' => ∃ a1 c1 a2 c2, e = .returned (.tuple #[.slice a1 (minus N O).length c1, .slice a2 (minus O N).length c2]) ∧ Src w' a1 c1 (minus N O) ∧ Src w' a2 c2 (minus O N) ∧ Below w.heap.size w w' := by
  obtain ⟨fs, hfs⟩ := struct49
  obtain ⟨i0, hi, hz0, hz1, hz2⟩ := info_parts Trym.info49
  have HHI : Hid (Trym.prog.info? 49 = some i0) := hi
  have HZ0 : Hid (i0.zero = some (.agg #[.string ByteArray.empty, .string ByteArray.empty])) := hz0
  have HZ1 : Hid (i0.size = 2) := hz1
  have HZ2 : Hid (i0.bytes = 32) := hz2
  have HO : Hid (Src w a c O) := hO
  have HN0 : Hid (Src w b d N) := hN
  clear hi hz0 hz1 hz2 hO hN
  go_enter Trym.func37, Trym.ntmps37
  go_wp2_with fail
  refine (newSet_any a c O w (by omega) HO.out).mono ?_
  rintro e w1 ⟨m1, rfl, hM1, hb1⟩
  go_wp2_with fail
  refine (newSet_any b d N w1 (by omega) (HN0.out.all hb1)).mono ?_
  rintro e w2 ⟨m2, rfl, hM2, hb2⟩
  have hbw2 : Below w.heap.size w w2 := hb1.trans (hb2.mono hb1.size)
  have m1S : Hid (SetM w2 m1 O) := hM1.all hb2
  have m2S : Hid (SetM w2 m2 N) := hM2
  have HN : Hid (Src w2 b d N) := HN0.out.all hbw2
  clear hM1 hM2 hb1 hb2 HN0
  obtain ⟨nn, hnn⟩ : ∃ nn, nn = N.length := ⟨_, rfl⟩
  obtain ⟨no, hno⟩ : ∃ no, no = O.length := ⟨_, rfl⟩
  have HNN : Hid (nn = N.length) := hnn
  have HON : Hid (no = O.length) := hno
  rw [← hnn] at hln ⊢
  rw [← hno] at hlo ⊢
  clear hnn hno
  go_wp2
  go_loopw [4, 22] (fun sv iv wr => ∃ k : Nat, k ≤ nn ∧ iv = .int .i64 k ∧ wr.ownsRow w2.heap.size 49 2 sv (minus (N.take k) O).length (flatP (minus (N.take k) O)) ∧ Below w2.heap.size w2 wr)
    (fun _ iv _ => nn - (intOf iv).toNat)
  case atStart => exact ⟨0, Nat.zero_le _, rfl, World.ownsRow_nil _ _ _ _, Below.refl _ _⟩
  case round =>
    obtain ⟨k, hk, rfl, hown, hbr⟩ := hrel
    by_cases hlt : k < nn
    · obtain ⟨p, hp⟩ : ∃ p, N[k]? = some p := ⟨_, List.getElem?_eq_getElem (by rw [← HNN.out]; exact hlt)⟩
      have HP : Hid (N[k]? = some p) := hp
      obtain ⟨g, rfl, hra⟩ := HN.out.at hp
      have hra0 : wr.rangeAt g (k * 2) (pc p) := hra wr hbr
      have HSET : Hid (SetM wr m1 O) := m1S.out.all hbr
      have hroom : (minus (N.take k) O).length ≤ k := minus_room
      clear hp hra
      cases hin : inS O p with
      | true =>
        have HIN : Hid (inS O p = true) := hin
        clear hin
        go_wp2_with (first
          | ((with_reducible show wpList _ _ _ (Oper.mk (some 25) (Op.load 49 _) _ _ _ _ :: _) _ _); refine wpList_val rfl (exec_loadB 49 _ rfl g (k * 2) rfl (pc p) hra0 _ hfs rfl (by rw [pc_length]; exact Trym.size49)) ?_)
          | ((with_reducible show wpList _ _ _ (Oper.mk _ (Op.alloc 49) _ _ _ _ :: _) _ _); refine wpList_allocB rfl 49 rfl _ [.string ByteArray.empty, .string ByteArray.empty] zero49 rfl ?_; intro ge w3 hge hBe hgr3)
          | ((with_reducible show wpList _ _ _ (Oper.mk _ (Op.store 49 _ _) _ _ _ _ :: _) _ _); refine wpList_storeB rfl 49 _ _ rfl ge 0 rfl (pc p) rfl _ 49 hBe Trym.size49 (by simp [pc]) (pc_ones _) ?_; intro w4 hBe4 hgr4; have hB4 : Blk w4 ge (pc p) 49 := hBe4; have hb4 : Below wr.heap.size wr w4 := (grownBelow hgr3).grown hgr4 hgr3.size (fun x hx => by cases hx; exact hge))
          | ((with_reducible show wpList _ _ _ (Oper.mk (some 28) (Op.load 49 _) _ _ _ _ :: _) _ _); refine wpList_val rfl (exec_loadB 49 _ rfl ge 0 rfl (pc p) (hB4.range 0 2) _ hfs rfl (by rw [pc_length]; exact Trym.size49)) ?_)
          | ((with_reducible show wpList _ _ _ (Oper.mk _ (Op.lookup 27 _ _ _) _ _ _ _ :: _) _ _); refine wpList_val rfl (exec_lookT _ _ rfl _ p rfl rfl _ (by have h := (HSET.out.all hb4).look p; rw [HIN.out] at h; exact h)) ?_)
          | ((with_reducible show wpList _ _ _ (Oper.mk _ (Op.alloc 54) _ _ _ _ :: _) _ _); refine wpList_allocB rfl 54 rfl _ [] zero54 rfl ?_; intro gz w5 hgz hBz hgr5)
          | ((with_reducible show wpList _ _ _ (Oper.mk _ (Op.store 54 _ _) _ _ _ _ :: _) _ _); refine wpList_storeB rfl 54 _ _ rfl gz 0 rfl [] rfl _ 54 hBz size54 (by simp) (fun v hv => by cases hv) ?_; intro w6 hBz6 hgr6; have hb6 : Below w4.heap.size w4 w6 := (grownBelow hgr5).grown hgr6 hgr5.size (fun x hx => by cases hx; exact hgz); have hbz : Below wr.heap.size wr w6 := hb4.trans (hb6.mono hb4.size); have hB6 := hB4.all hb6; have hownz := own_all hown hbz; have hbz2 : Below w2.heap.size w2 w6 := hbr.trans (hbz.mono hbr.size)))
        go_roundw
        case rel => exact ⟨k + 1, by omega, by go_num, by rw [minus_in HP.out HIN.out]; exact hownz, hbz2⟩
        case measure => simp [intOf]; omega
      | false =>
        have HIN : Hid (inS O p = false) := hin
        clear hin
        go_wp2_with (first
          | ((with_reducible show wpList _ _ _ (Oper.mk (some 25) (Op.load 49 _) _ _ _ _ :: _) _ _); refine wpList_val rfl (exec_loadB 49 _ rfl g (k * 2) rfl (pc p) hra0 _ hfs rfl (by rw [pc_length]; exact Trym.size49)) ?_)
          | ((with_reducible show wpList _ _ _ (Oper.mk _ (Op.alloc 49) _ _ _ _ :: _) _ _); refine wpList_allocB rfl 49 rfl _ [.string ByteArray.empty, .string ByteArray.empty] zero49 rfl ?_; intro ge w3 hge hBe hgr3)
          | ((with_reducible show wpList _ _ _ (Oper.mk _ (Op.store 49 _ _) _ _ _ _ :: _) _ _); refine wpList_storeB rfl 49 _ _ rfl ge 0 rfl (pc p) rfl _ 49 hBe Trym.size49 (by simp [pc]) (pc_ones _) ?_; intro w4 hBe4 hgr4; have hB4 : Blk w4 ge (pc p) 49 := hBe4; have hb4 : Below wr.heap.size wr w4 := (grownBelow hgr3).grown hgr4 hgr3.size (fun x hx => by cases hx; exact hge))
          | ((with_reducible show wpList _ _ _ (Oper.mk (some 28) (Op.load 49 _) _ _ _ _ :: _) _ _); refine wpList_val rfl (exec_loadB 49 _ rfl ge 0 rfl (pc p) (hB4.range 0 2) _ hfs rfl (by rw [pc_length]; exact Trym.size49)) ?_)
          | ((with_reducible show wpList _ _ _ (Oper.mk _ (Op.lookup 27 _ _ _) _ _ _ _ :: _) _ _); refine wpList_val rfl (exec_lookT _ _ rfl _ p rfl rfl _ (by have h := (HSET.out.all hb4).look p; rw [HIN.out] at h; exact h)) ?_)
          | ((with_reducible show wpList _ _ _ (Oper.mk _ (Op.alloc 54) _ _ _ _ :: _) _ _); refine wpList_allocB rfl 54 rfl _ [] zero54 rfl ?_; intro gz w5 hgz hBz hgr5)
          | ((with_reducible show wpList _ _ _ (Oper.mk _ (Op.store 54 _ _) _ _ _ _ :: _) _ _); refine wpList_storeB rfl 54 _ _ rfl gz 0 rfl [] rfl _ 54 hBz size54 (by simp) (fun v hv => by cases hv) ?_; intro w6 hBz6 hgr6; have hb6 : Below w4.heap.size w4 w6 := (grownBelow hgr5).grown hgr6 hgr5.size (fun x hx => by cases hx; exact hgz); have hbz : Below wr.heap.size wr w6 := hb4.trans (hb6.mono hb4.size); have hB6 := hB4.all hb6; have hownz := own_all hown hbz; have hbz2 : Below w2.heap.size w2 w6 := hbr.trans (hbz.mono hbr.size))
          | ((with_reducible show wpList _ _ _ (Oper.mk (some 35) (Op.load 49 _) _ _ _ _ :: _) _ _); refine wpList_val rfl (exec_loadB 49 _ rfl ge 0 rfl (pc p) (hB6.range 0 2) _ hfs rfl (by rw [pc_length]; exact Trym.size49)) ?_)
          | ((with_reducible show wpList _ _ _ (Oper.mk _ (Op.buildSlice 29 _ _) _ _ _ _ :: _) _ _); refine wpList_buildSliceB rfl 29 49 _ rfl (pc p) rfl Trym.underlying29 [.string ByteArray.empty, .string ByteArray.empty] 2 slice49 rfl rfl (by omega) (by omega) ?_; intro gb w7 hgb hBb hgr7; have hown7 := own_grown hownz hgr7 (Classical.em _))
          | (at_builtin; refine wpList_append_own_wide _ rfl _ _ 29 rfl w2.heap.size 49 i0 (.agg #[.string ByteArray.empty, .string ByteArray.empty]) 2 32 Trym.underlying29 HHI.out HZ0.out HZ1.out HZ2.out rfl (by omega) _ _ _ rfl hown7 ⟨gb, 0, none⟩ 1 1 (pc p) rfl (by rw [pc_length]) (fun j v hv => by rw [Addr.add_lit, Nat.zero_add, hBb.cell]; exact hv) (pc_ones p) (by unfold maxLen; omega) (by omega) (Nat.le_trans hbz2.size hgr7.size) ?_; intro v8 w8 hown8 hgr8 _))
        have hb8 : Below w2.heap.size w2 w8 := (hbz2.trans ((grownBelow hgr7).mono hbz2.size)).grown hgr8 (Nat.le_trans hbz2.size hgr7.size) (fun q hq => row_ge hown7 hq)
        go_roundw
        case rel => exact ⟨k + 1, by omega, by go_num, by rw [minus_out HP.out HIN.out, flatP_append, List.length_append]; simpa [flatP] using hown8, hb8⟩
        case measure => simp [intOf]; omega
    · obtain rfl : k = nn := by omega
      rw [show N.take k = N from List.take_of_length_le (by rw [HNN.out]; exact Nat.le_refl _)] at hown
      obtain ⟨w9, rfl⟩ : ∃ w9 : World, w9 = wr := ⟨_, rfl⟩
      obtain ⟨a1, c1, hv, hSrc⟩ := Src.grown hown rfl
      subst hv
      have hbw5 : Below w.heap.size w w9 := hbw2.trans (hbr.mono hbw2.size)
      have HO9 : Hid (Src w9 a c O) := HO.out.all hbw5
      have m2S9 : Hid (SetM w9 m2 N) := m2S.out.all hbr
      have HA : Hid (Src w9 a1 c1 (minus N O)) := hSrc
      clear hSrc hown hbr hbw2 HN m1S m2S
      have HO : Hid (Src w9 a c O) := HO9
      have m2S : Hid (SetM w9 m2 N) := m2S9
      clear HO9 m2S9
      go_wp2
      go_loopw [5, 41] (fun sv iv wr => ∃ k : Nat, k ≤ no ∧ iv = .int .i64 k ∧ wr.ownsRow w9.heap.size 49 2 sv (minus (O.take k) N).length (flatP (minus (O.take k) N)) ∧ Below w9.heap.size w9 wr)
        (fun _ iv _ => no - (intOf iv).toNat)
      case atStart => exact ⟨0, Nat.zero_le _, rfl, World.ownsRow_nil _ _ _ _, Below.refl _ _⟩
      case round =>
        obtain ⟨k, hk, rfl, hown, hbr⟩ := hrel
        by_cases hlt : k < no
        · obtain ⟨p, hp⟩ : ∃ p, O[k]? = some p := ⟨_, List.getElem?_eq_getElem (by rw [← HON.out]; exact hlt)⟩
          have HP : Hid (O[k]? = some p) := hp
          obtain ⟨g, rfl, hra⟩ := HO.out.at hp
          have hra0 : wr.rangeAt g (k * 2) (pc p) := hra wr hbr
          have HSET : Hid (SetM wr m2 N) := m2S.out.all hbr
          have hroom : (minus (O.take k) N).length ≤ k := minus_room
          clear hp hra
          cases hin : inS N p with
          | true =>
            have HIN : Hid (inS N p = true) := hin
            clear hin
            go_wp2_with (first
              | ((with_reducible show wpList _ _ _ (Oper.mk (some 44) (Op.load 49 _) _ _ _ _ :: _) _ _); refine wpList_val rfl (exec_loadB 49 _ rfl g (k * 2) rfl (pc p) hra0 _ hfs rfl (by rw [pc_length]; exact Trym.size49)) ?_)
              | ((with_reducible show wpList _ _ _ (Oper.mk _ (Op.alloc 49) _ _ _ _ :: _) _ _); refine wpList_allocB rfl 49 rfl _ [.string ByteArray.empty, .string ByteArray.empty] zero49 rfl ?_; intro ge w3 hge hBe hgr3)
              | ((with_reducible show wpList _ _ _ (Oper.mk _ (Op.store 49 _ _) _ _ _ _ :: _) _ _); refine wpList_storeB rfl 49 _ _ rfl ge 0 rfl (pc p) rfl _ 49 hBe Trym.size49 (by simp [pc]) (pc_ones _) ?_; intro w4 hBe4 hgr4; have hB4 : Blk w4 ge (pc p) 49 := hBe4; have hb4 : Below wr.heap.size wr w4 := (grownBelow hgr3).grown hgr4 hgr3.size (fun x hx => by cases hx; exact hge))
              | ((with_reducible show wpList _ _ _ (Oper.mk (some 47) (Op.load 49 _) _ _ _ _ :: _) _ _); refine wpList_val rfl (exec_loadB 49 _ rfl ge 0 rfl (pc p) (hB4.range 0 2) _ hfs rfl (by rw [pc_length]; exact Trym.size49)) ?_)
              | ((with_reducible show wpList _ _ _ (Oper.mk _ (Op.lookup 27 _ _ _) _ _ _ _ :: _) _ _); refine wpList_val rfl (exec_lookT _ _ rfl _ p rfl rfl _ (by have h := (HSET.out.all hb4).look p; rw [HIN.out] at h; exact h)) ?_)
              | ((with_reducible show wpList _ _ _ (Oper.mk _ (Op.alloc 54) _ _ _ _ :: _) _ _); refine wpList_allocB rfl 54 rfl _ [] zero54 rfl ?_; intro gz w5 hgz hBz hgr5)
              | ((with_reducible show wpList _ _ _ (Oper.mk _ (Op.store 54 _ _) _ _ _ _ :: _) _ _); refine wpList_storeB rfl 54 _ _ rfl gz 0 rfl [] rfl _ 54 hBz size54 (by simp) (fun v hv => by cases hv) ?_; intro w6 hBz6 hgr6; have hb6 : Below w4.heap.size w4 w6 := (grownBelow hgr5).grown hgr6 hgr5.size (fun x hx => by cases hx; exact hgz); have hbz : Below wr.heap.size wr w6 := hb4.trans (hb6.mono hb4.size); have hB6 := hB4.all hb6; have hownz := own_all hown hbz; have hbz2 : Below w9.heap.size w9 w6 := hbr.trans (hbz.mono hbr.size)))
            go_roundw
            case rel => exact ⟨k + 1, by omega, by go_num, by rw [minus_in HP.out HIN.out]; exact hownz, hbz2⟩
            case measure => simp [intOf]; omega
          | false =>
            have HIN : Hid (inS N p = false) := hin
            clear hin
            go_wp2_with (first
              | ((with_reducible show wpList _ _ _ (Oper.mk (some 44) (Op.load 49 _) _ _ _ _ :: _) _ _); refine wpList_val rfl (exec_loadB 49 _ rfl g (k * 2) rfl (pc p) hra0 _ hfs rfl (by rw [pc_length]; exact Trym.size49)) ?_)
              | ((with_reducible show wpList _ _ _ (Oper.mk _ (Op.alloc 49) _ _ _ _ :: _) _ _); refine wpList_allocB rfl 49 rfl _ [.string ByteArray.empty, .string ByteArray.empty] zero49 rfl ?_; intro ge w3 hge hBe hgr3)
              | ((with_reducible show wpList _ _ _ (Oper.mk _ (Op.store 49 _ _) _ _ _ _ :: _) _ _); refine wpList_storeB rfl 49 _ _ rfl ge 0 rfl (pc p) rfl _ 49 hBe Trym.size49 (by simp [pc]) (pc_ones _) ?_; intro w4 hBe4 hgr4; have hB4 : Blk w4 ge (pc p) 49 := hBe4; have hb4 : Below wr.heap.size wr w4 := (grownBelow hgr3).grown hgr4 hgr3.size (fun x hx => by cases hx; exact hge))
              | ((with_reducible show wpList _ _ _ (Oper.mk (some 47) (Op.load 49 _) _ _ _ _ :: _) _ _); refine wpList_val rfl (exec_loadB 49 _ rfl ge 0 rfl (pc p) (hB4.range 0 2) _ hfs rfl (by rw [pc_length]; exact Trym.size49)) ?_)
              | ((with_reducible show wpList _ _ _ (Oper.mk _ (Op.lookup 27 _ _ _) _ _ _ _ :: _) _ _); refine wpList_val rfl (exec_lookT _ _ rfl _ p rfl rfl _ (by have h := (HSET.out.all hb4).look p; rw [HIN.out] at h; exact h)) ?_)
              | ((with_reducible show wpList _ _ _ (Oper.mk _ (Op.alloc 54) _ _ _ _ :: _) _ _); refine wpList_allocB rfl 54 rfl _ [] zero54 rfl ?_; intro gz w5 hgz hBz hgr5)
              | ((with_reducible show wpList _ _ _ (Oper.mk _ (Op.store 54 _ _) _ _ _ _ :: _) _ _); refine wpList_storeB rfl 54 _ _ rfl gz 0 rfl [] rfl _ 54 hBz size54 (by simp) (fun v hv => by cases hv) ?_; intro w6 hBz6 hgr6; have hb6 : Below w4.heap.size w4 w6 := (grownBelow hgr5).grown hgr6 hgr5.size (fun x hx => by cases hx; exact hgz); have hbz : Below wr.heap.size wr w6 := hb4.trans (hb6.mono hb4.size); have hB6 := hB4.all hb6; have hownz := own_all hown hbz; have hbz2 : Below w9.heap.size w9 w6 := hbr.trans (hbz.mono hbr.size))
              | ((with_reducible show wpList _ _ _ (Oper.mk (some 54) (Op.load 49 _) _ _ _ _ :: _) _ _); refine wpList_val rfl (exec_loadB 49 _ rfl ge 0 rfl (pc p) (hB6.range 0 2) _ hfs rfl (by rw [pc_length]; exact Trym.size49)) ?_)
              | ((with_reducible show wpList _ _ _ (Oper.mk _ (Op.buildSlice 29 _ _) _ _ _ _ :: _) _ _); refine wpList_buildSliceB rfl 29 49 _ rfl (pc p) rfl Trym.underlying29 [.string ByteArray.empty, .string ByteArray.empty] 2 slice49 rfl rfl (by omega) (by omega) ?_; intro gb w7 hgb hBb hgr7; have hown7 := own_grown hownz hgr7 (Classical.em _))
              | (at_builtin; refine wpList_append_own_wide _ rfl _ _ 29 rfl w9.heap.size 49 i0 (.agg #[.string ByteArray.empty, .string ByteArray.empty]) 2 32 Trym.underlying29 HHI.out HZ0.out HZ1.out HZ2.out rfl (by omega) _ _ _ rfl hown7 ⟨gb, 0, none⟩ 1 1 (pc p) rfl (by rw [pc_length]) (fun j v hv => by rw [Addr.add_lit, Nat.zero_add, hBb.cell]; exact hv) (pc_ones p) (by unfold maxLen; omega) (by omega) (Nat.le_trans hbz2.size hgr7.size) ?_; intro v8 w8 hown8 hgr8 _))
            have hb8 : Below w9.heap.size w9 w8 := (hbz2.trans ((grownBelow hgr7).mono hbz2.size)).grown hgr8 (Nat.le_trans hbz2.size hgr7.size) (fun q hq => row_ge hown7 hq)
            go_roundw
            case rel => exact ⟨k + 1, by omega, by go_num, by rw [minus_out HP.out HIN.out, flatP_append, List.length_append]; simpa [flatP] using hown8, hb8⟩
            case measure => simp [intOf]; omega
        · obtain rfl : k = no := by omega
          rw [show O.take k = O from List.take_of_length_le (by rw [HON.out]; exact Nat.le_refl _)] at hown
          obtain ⟨a', c', hv, hSrc⟩ := Src.grown hown rfl
          subst hv
          go_wp2
          go_ret2
          exact ⟨a1, c1, a', c', rfl, HA.out.all hbr, hSrc, hbw5.trans (hbr.mono hbw5.size)⟩

/-- ZZDiff. -/
theorem zzDiff_any (a b : Option Addr) (c d : Nat) (O N : List P2) (w : World) (hlo : O.length ≤ 65536) (hln : N.length ≤ 65536) (hO : Src w a c O) (hN : Src w b d N) :
    Calls Trym.prog 22 #[.slice a O.length c, .slice b N.length d] w fun e w' => ∃ a1 c1 a2 c2, e = .returned (.tuple #[.slice a1 (minus N O).length c1, .slice a2 (minus O N).length c2]) ∧ Src w' a1 c1 (minus N O) ∧ Src w' a2 c2 (minus O N) ∧ Below w.heap.size w w' := by
  have HO : Hid (Src w a c O) := hO
  have HN : Hid (Src w b d N) := hN
  clear hO hN
  go_enter Trym.func22, Trym.ntmps22
  go_wp2_with fail
  refine (diff_any a b c d O N w hlo hln HO.out HN.out).mono ?_
  rintro e w1 ⟨a1, c1, a2, c2, rfl, h1, h2, hb⟩
  go_wp2
  go_ret2
  exact ⟨a1, c1, a2, c2, rfl, h1, h2, hb⟩
end Go.Proofs.Qxb6603070aMods.M
