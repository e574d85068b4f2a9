import Derived.Test.Qxb6000998aModsEKPlain
namespace Go.Proofs.Qxb6000998aMods.E
open Go.RowKit Go.Proofs.Qxb6000998aMods.L

theorem keys54 : Keys Trym.prog 54 (fun a : Int => Value.int .u16 a) := keys_int Trym.underlying54
theorem Trym.zero23 : (Trym.prog.info? 23).map (·.zero) = some (some (.int .u64 0)) := by kernel_rfl

theorem own_form {w : World} {B : Nat} {v : Value} {n : Nat} {xs : List Value} (h : w.ownsRow B 58 228 v n xs) : ∃ ao c, v = .slice ao n c ∧ (0 < n → ∃ go, ao = some ⟨go, 0, none⟩) := by
  rcases h.2 with ⟨rfl, rfl⟩ | ⟨g, cap, cur, rfl, _⟩
  · exact ⟨none, 0, rfl, fun h => by omega⟩
  · exact ⟨_, cap, rfl, fun _ => ⟨g, rfl⟩⟩

theorem Owners.shape {w : World} {v : Value} {O : List (List Int)} (h : Owners w v O) : ∃ a, v = .slice a O.length O.length := by
  rcases h with ⟨rfl, rfl⟩ | ⟨g, vs, rfl, _⟩
  · exact ⟨none, rfl⟩
  · exact ⟨_, rfl⟩
/-- A row of the call's own, and its owners. -/
theorem Owners.at {w : World} {a : Option Addr} {O : List (List Int)} (h : Owners w (.slice a O.length O.length) O) {k : Nat} {zs : List Int} (hz : O[k]? = some zs) :
    ∃ g, a = some ⟨g, 0, none⟩ ∧ ∃ u, w.cell? ⟨g, k, none⟩ = some (.slice u zs.length zs.length) ∧ ∀ j o, zs[j]? = some o → ∃ b, u = some ⟨b, 0, none⟩ ∧ w.cell? ⟨b, j, none⟩ = some (.int .u16 o) := by
  rcases h with ⟨_, rfl⟩ | ⟨g, vs, hv, hB, hl, hr⟩
  · simp at hz
  · simp only [Value.slice.injEq, and_true] at hv
    have hk := (List.getElem?_eq_some_iff.1 hz).1
    obtain ⟨u, hu⟩ : ∃ u, vs[k]? = some u := ⟨_, List.getElem?_eq_getElem (by omega)⟩
    refine ⟨g, hv, ?_⟩
    rcases hr k u zs hu hz with ⟨rfl, rfl⟩ | ⟨b, rfl, hBb⟩
    · exact ⟨none, by rw [hB.cell]; exact hu, fun j o h => by simp at h⟩
    · refine ⟨some ⟨b, 0, none⟩, by rw [hB.cell]; exact hu, fun j o h => ⟨b, rfl, ?_⟩⟩
      rw [hBb.cell, List.getElem?_map, h]; rfl

set_option maxHeartbeats 8000000 in
set_option maxRecDepth 100000 in
theorem keeps_small (a0 : Option Addr) (len cap : Nat) (O : List (List Int)) (w : World) (hin : InRows w a0 len cap O) (hob : ∀ row ∈ O, ∀ o ∈ row, 0 ≤ o ∧ o ≤ 65535) :
    Calls Trym.prog 5 #[.slice a0 len cap] w fun e w' => e = .returned (.bool true) ∧ Below w.heap.size w w' := by
  have HIN : Hid (InRows w a0 len cap O) := hin
  have HOB : Hid (∀ row ∈ O, ∀ o ∈ row, 0 ≤ o ∧ o ≤ 65535) := hob
  clear hin hob
  go_enter Trym.func5, Trym.ntmps5
  go_wp2_with fail
  refine (zzb_in HIN.out rfl).mono ?_
  rintro e w ⟨t, rfl, rfl⟩
  cases t with
  | false =>
    go_wp2
    go_ret
    exact ⟨rfl, Below.refl _ _⟩
  | true =>
    go_wp2_with fail
    refine (tooBig_in HIN.out rfl).mono ?_
    rintro e w ⟨t, rfl, rfl, hsm⟩
    cases t with
    | true =>
      go_wp2
      go_ret
      exact ⟨rfl, Below.refl _ _⟩
    | false =>
      obtain ⟨hOl, hOt⟩ := hsm rfl
      clear hsm
      have hrl : ∀ row ∈ O, row.length ≤ 65536 := fun row hrow => Nat.le_trans (row_le_total O row hrow) hOt
      have HRL : Hid (∀ row ∈ O, row.length ≤ 65536) := hrl
      clear hrl
      go_wp2_with fail
      refine (cloneOwners_in HIN.out hOl HRL.out rfl).mono ?_
      rintro e w1 ⟨vO, rfl, hOw, hb1⟩
      go_wp2_with fail
      refine (build_in hOw (by omega) HRL.out HOB.out).mono ?_
      rintro e w2 ⟨vR, rfl, hRes, hb2⟩
      have hOw2 := hOw.all hb2
      obtain ⟨gR, vs, rfl, hBR, hvl, hER⟩ := hRes
      go_wp2_with fail
      refine (zz_any gR _ vs (resE O) w2 (by rw [resE_length]; omega) (by rw [flatten_len]; exact hOt) hBR (by omega) hER).mono ?_
      rintro e w3 ⟨vD, rfl, hown, hb3⟩
      have hOw3 := hOw2.all hb3
      have hbel : Below w.heap.size w w3 := (hb1.trans (hb2.mono hb1.size)).trans (hb3.mono (hb1.trans (hb2.mono hb1.size)).size)
      clear hOw hOw2 hBR hER hb1 hb2 hb3 hvl
      obtain ⟨D, hD⟩ : ∃ D, D = dd (resE O).flatten := ⟨_, rfl⟩
      rw [← hD] at hown
      have HD : Hid (D = dd (resE O).flatten) := hD
      have hDl : D.length ≤ 65536 := by rw [hD]; exact Nat.le_trans (dd_length_le _) (by rw [flatten_len]; exact hOt)
      clear hD
      obtain ⟨ao, co, hvD, hao⟩ := own_form hown
      rw [hvD] at hown ⊢
      clear hvD
      go_wp2_with (first | ((with_reducible show wpList _ _ _ (Oper.mk _ (Op.makeMap _ _) _ _ _ _ :: _) _ _); refine wpList_makeMapB (fun a : Int => Value.int .u16 a) rfl 52 rfl ?_; intro gm w4 hgm hM hgr4) | fail)
      have hb4 : Below w3.heap.size w3 w4 := grownBelow hgr4
      obtain ⟨aO, hvO⟩ := hOw3.shape
      rw [hvO] at hOw3 ⊢
      clear hvO hgr4
      go_loopw [5, 6] (fun d i wr => ∃ k : Nat, k ≤ O.length ∧ i = .int .i64 k ∧ d = .int .i64 (dd ((resE O).take k).flatten).length ∧ MapB wr gm (fun a : Int => Value.int .u16 a) (fstOf (dd ((resE O).take k).flatten)) ∧ Below w3.heap.size w3 wr)
        (fun _ i _ => O.length - (intOf i).toNat)
      case atStart => exact ⟨0, Nat.zero_le _, rfl, by simp [dd], by simpa [dd, fstOf] using hM, hb4⟩
      case round =>
        obtain ⟨wo, rfl⟩ : ∃ wo : World, wo = wr := ⟨_, rfl⟩
        obtain ⟨k, hk, rfl, rfl, hMo, hbo⟩ := hrel
        clear hM hb4
        by_cases hlt : k < O.length
        · obtain ⟨zs, hz⟩ : ∃ zs, O[k]? = some zs := ⟨_, List.getElem?_eq_getElem hlt⟩
          obtain ⟨g, haO, u, hcu, hel⟩ := hOw3.at hz
          subst haO
          have hzl : zs.length ≤ 65536 := HRL.out zs (List.mem_of_getElem? hz)
          have hRk : (resE O)[k]? = some (rowE k zs) := by rw [resE_get, hz]; rfl
          have hpre : ∀ j, (dd (((resE O).take k).flatten ++ (rowE k zs).take j)).length ≤ 65536 := fun j => Nat.le_trans (dd_length_le _) (Nat.le_trans (pre_le (resE O) k (rowE k zs) j hRk) (by rw [flatten_len]; exact hOt))
          have hcuo : wo.cell? ⟨g, k, none⟩ = some (.slice u zs.length zs.length) := (hbo.cell (World.block_lt_of_cell? w3 _ hcu)).trans hcu
          have HRK : Hid ((resE O)[k]? = some (rowE k zs)) := hRk
          have HZ : Hid (O[k]? = some zs) := hz
          clear hRk hz
          have hgw : g < w3.heap.size := World.block_lt_of_cell? w3 _ hcu
          go_wp2
          go_loopw [5, 7] (fun d i wr => ∃ j : Nat, j ≤ zs.length ∧ i = .int .i64 j ∧ d = .int .i64 (dd (((resE O).take k).flatten ++ (rowE k zs).take j)).length ∧ MapB wr gm (fun a : Int => Value.int .u16 a) (fstOf (dd (((resE O).take k).flatten ++ (rowE k zs).take j))) ∧ Below w3.heap.size w3 wr)
            (fun _ i _ => zs.length - (intOf i).toNat)
          case atStart => exact ⟨0, Nat.zero_le _, rfl, by simp, by simpa using hMo, hbo⟩
          case round =>
            obtain ⟨j, hj, rfl, rfl, hMr, hbr⟩ := hrel
            have hacl := hpre j
            have hcur : wr.cell? ⟨g, k, none⟩ = some (.slice u zs.length zs.length) := (hbr.cell (by exact hgw)).trans hcu
            clear hMo hbo hcuo
            by_cases hjl : j < zs.length
            · obtain ⟨o, ho⟩ : ∃ o, zs[j]? = some o := ⟨_, List.getElem?_eq_getElem hjl⟩
              obtain ⟨b, rfl, hco⟩ := hel j o ho
              have hcor : wr.cell? ⟨b, j, none⟩ = some (.int .u16 o) := (hbr.cell (World.block_lt_of_cell? w3 _ hco)).trans hco
              have HS : Hid (dd (((resE O).take k).flatten ++ (rowE k zs).take (j + 1)) = step (dd (((resE O).take k).flatten ++ (rowE k zs).take j)) (tag k j, o)) := by
                show _ = _
                rw [take_ent1 (rowE k zs) j (tag k j, o) (by rw [rowE_get, ho]; rfl), ← List.append_assoc, dd_snoc]
              obtain ⟨acc, hacc⟩ : ∃ acc, acc = dd (((resE O).take k).flatten ++ (rowE k zs).take j) := ⟨_, rfl⟩
              rw [← hacc] at hMr hacl HS ⊢
              clear hacc hpre ho hel hco
              have s1 := shl_wrap k (by omega)
              have s2 := or_bits k j (by omega) (by omega)
              cases hh : acc.any (fun x => decide (x.2 = o)) with
              | true =>
                obtain ⟨y, hy⟩ := fst_some hh
                have HST : Hid (step acc (tag k j, o) = acc) := step_hit hh
                have HY : Hid (atKey o (fstOf acc) 0 = some y) := hy
                clear hh hy
                go_wp2_with (first
                  | ((with_reducible show wpList _ _ _ (Oper.mk _ (Op.lookup 52 _ _ _) _ _ _ _ :: _) _ _); refine wpList_lookupV rfl 52 _ _ true rfl 54 23 Trym.underlying52 keys54 gm rfl _ hMr o rfl (.int .u64 0) Trym.zero23 (.tuple #[y.2, .bool true]) (by rw [if_pos rfl, HY.out]; rfl) ?_)
                  | fail)
                go_roundw
                case rel =>
                  refine ⟨j + 1, by omega, by go_num, ?_, ?_, hbr⟩
                  · rw [HS.out, HST.out]
                  · rw [HS.out, HST.out]; exact hMr
                case measure => simp [intOf]; omega
              | false =>
                have hy := fst_none hh
                have HST : Hid (step acc (tag k j, o) = acc ++ [(tag k j, o)]) := step_miss hh
                have HY : Hid (atKey o (fstOf acc) 0 = none) := hy
                clear hh hy
                go_wp2_with (first
                  | ((with_reducible show wpList _ _ _ (Oper.mk _ (Op.lookup 52 _ _ _) _ _ _ _ :: _) _ _); refine wpList_lookupV rfl 52 _ _ true rfl 54 23 Trym.underlying52 keys54 gm rfl _ hMr o rfl (.int .u64 0) Trym.zero23 (.tuple #[.int .u64 0, .bool false]) (by rw [if_pos rfl, HY.out]; rfl) ?_)
                  | ((with_reducible show wpList _ _ _ (Oper.mk _ (Op.mapUpdate 52 _ _ _) _ _ _ _ :: _) _ _); refine wpList_updateNew rfl 52 _ _ _ rfl 54 23 Trym.underlying52 keys54 gm rfl _ hMr o rfl (.int .u64 (tag k j)) rfl HY.out ?_; intro w5 hM5 hgr5))
                have hb5 : Below w3.heap.size w3 w5 := hbr.grown hgr5 hbr.size (fun x hx => by cases hx; exact hgm)
                go_roundw
                case rel =>
                  refine ⟨j + 1, by omega, by go_num, ?_, ?_, hb5⟩
                  · rw [HS.out, HST.out, List.length_append]; go_num
                  · rw [HS.out, HST.out, fstOf_snoc]; exact hM5
                case measure => simp [intOf]; omega
            · obtain rfl : j = zs.length := by omega
              have hR2 : (rowE k zs).take zs.length = rowE k zs := List.take_of_length_le (by rw [rowE_length]; omega)
              rw [hR2, ← take_row (resE O) k (rowE k zs) HRK.out] at hMr ⊢
              clear hR2
              go_wp2
              go_roundw
              case rel => exact ⟨k + 1, by omega, by go_num, rfl, hMr, hbr⟩
              case measure => simp [intOf]; omega
        · obtain rfl : k = O.length := by omega
          have hR2 : (resE O).take O.length = resE O := List.take_of_length_le (by rw [resE_length]; omega)
          rw [hR2, ← HD.out] at hMo ⊢
          clear hR2
          have hownl := own_all hown hbo
          have hOwl := hOw3.all hbo
          have hbell : Below w.heap.size w wo := hbel.trans (hbo.mono hbel.size)
          clear hown hOw3 hbel hbo
          go_wp2
          go_loopw [11] (fun i wr => ∃ k : Nat, k ≤ D.length ∧ i = .int .i64 k ∧ Below wo.heap.size wo wr)
            (fun i _ => D.length - (intOf i).toNat)
          case atStart => exact ⟨0, Nat.zero_le _, rfl, Below.refl _ _⟩
          case round =>
            obtain ⟨k, hk, rfl, hbr⟩ := hrel
            by_cases hlt : k < D.length
            · obtain ⟨⟨T, o⟩, hTo⟩ : ∃ p, D[k]? = some p := ⟨_, List.getElem?_eq_getElem hlt⟩
              obtain ⟨go, rfl⟩ := hao (by omega)
              obtain ⟨i, j, row, hi, hj, hT, hil, hjl, hjs⟩ := out_facts O hOt k T o (by rw [← HD.out]; exact hTo)
              obtain ⟨g, haO, u, hcu, hel⟩ := hOwl.at hi
              subst haO
              obtain ⟨b, rfl, hco⟩ := hel j o hj
              have ho := HOB.out row (List.mem_of_getElem? hi) o (List.mem_of_getElem? hj)
              have hrowl := HRL.out row (List.mem_of_getElem? hi)
              have cc : ∀ c, c < 228 → wr.cell? ⟨go, k * 228 + c, none⟩ = (ent (T, o))[c]? := by
                intro c hc
                rw [(own_all hownl hbr).cellAt (k * 228 + c) (by omega)]
                exact flat_get D k (T, o) c hTo hc
              have cT : wr.cell? ⟨go, k * 228 + 32 + 33, none⟩ = some (.int .u64 T) := by rw [Nat.add_assoc]; exact (cc 65 (by omega)).trans (ent_seq _)
              have cR : wr.cell? ⟨go, k * 228 + 32 + 131, none⟩ = some (.int .u64 o) := by rw [Nat.add_assoc]; exact (cc 163 (by omega)).trans (ent_round _)
              have cK : wr.cell? ⟨go, k * 228 + 32, none⟩ = some (.int .u8 2) := (cc 32 (by omega)).trans (ent_kind _)
              have tH := tag_hi i j (by omega)
              have tL := tag_lo i j (by omega) (by omega)
              have tP := tag_pos i j (by omega) (by omega)
              rw [← hT] at tH tL tP
              clear hT cc
              have h16 : IntKind.u16.wrap o = o := by rw [IntKind.wrap_u16]; omega
              have hkr : ∀ w', Below wr.heap.size wr w' → w'.rangeAt go (0 + k * 228) (keyC o) := by
                intro w' hw' c v hv
                have hc : c < 32 := by have := (List.getElem?_eq_some_iff.1 hv).1; rwa [keyC_length] at this
                rw [(own_all (own_all hownl hbr) hw').cellAt (0 + k * 228 + c) (by omega), Nat.zero_add, flat_get D k (T, o) c hTo (by omega), ← hv, ← ent_owner (T, o), List.getElem?_take, if_pos hc]
              go_wp2
              refine wp_region_quietC (fun w' => Below wr.heap.size wr w') (by kernel_rfl) (by kernel_rfl) (Below.refl _ _).drew ?_
              refine wpQuiet_mv _ _ rfl rfl rfl ?_
              go_frame
              refine wpQuiet_mv _ _ rfl rfl rfl ?_
              go_frame
              refine wpQuiet_val rfl (.pointer (some ⟨go, 0 + k * 228, none⟩)) (fun w' _ => exec_indexB 48 58 _ _ rfl go 0 _ _ rfl .i64 k rfl hlt Trym.underlying48 228 Trym.size58) ?_
              go_frame
              refine wpQuiet_val rfl (.pointer (some ⟨go, 0 + k * 228, none⟩)) (fun w' _ => exec_field _ rfl go _ rfl) ?_
              go_frame
              refine wpQuiet_val rfl (.agg (keyC o).toArray) (fun w' hw' => exec_loadB 22 _ rfl go _ rfl (keyC o) (hkr w' hw') _ Trym.underlying22 rfl (by rw [keyC_length]; exact Trym.size22)) ?_
              go_frame
              refine wpQuiet_mv _ _ rfl rfl rfl ?_
              go_frame
              refine wpQuiet_callB rfl (.agg (keyC o).toArray) 21 #[.int .u16 o] (fun w' => by simp [go_sem]) (fun w' hw' => (ownerKey_any o ho.1 ho.2 w').mono (fun e w'' h => ⟨h.1, hw'.trans (h.2.mono hw'.size)⟩)) ?_
              go_frame
              refine wpQuiet_val rfl (.bool false) (fun w' _ => exec_neq 22 _ _ 22 rfl _ _ rfl rfl false (neq_key o w') guard22) ?_
              go_frame
              refine wpQuiet_nil ?_
              intro wq hbq
              clear hkr
              have hbq2 : Below wo.heap.size wo wq := hbr.trans (hbq.mono hbr.size)
              have hcuq : wq.cell? ⟨g, i, none⟩ = some (.slice (some ⟨b, 0, none⟩) row.length row.length) := (hbq2.cell (World.block_lt_of_cell? wo _ hcu)).trans hcu
              have hcoq : wq.cell? ⟨b, j, none⟩ = some (.int .u16 o) := (hbq2.cell (World.block_lt_of_cell? wo _ hco)).trans hco
              have hMq := hMo.all hbq2
              have hat := fst_at (resE O).flatten k T o (by rw [← HD.out]; exact hTo)
              rw [← HD.out] at hat
              have HAT : Hid (atKey o (fstOf D) 0 = some (k, .int .u64 T)) := hat
              have HOWN : Hid (wq.ownsRow w2.heap.size 58 228 (.slice (some ⟨go, 0, none⟩) D.length co) D.length (flat D)) := own_all hownl hbq2
              have HTO : Hid (D[k]? = some (T, o)) := hTo
              clear hat hTo hcu hco hel hMo hbq hbr cT cR cK hownl hOwl hi hj
              by_cases hk0 : k = 0
              · subst hk0
                go_wp2_with (first
                  | ((with_reducible show wpList _ _ _ (Oper.mk _ (Op.lookup 52 _ _ _) _ _ _ _ :: _) _ _); refine wpList_lookupV rfl 52 _ _ true rfl 54 23 Trym.underlying52 keys54 gm rfl _ hMq o rfl (.int .u64 0) Trym.zero23 (.tuple #[.int .u64 T, .bool true]) (by rw [if_pos rfl, HAT.out]; rfl) ?_)
                  | fail)
                go_roundw
                case rel => exact ⟨0 + 1, by omega, by go_num, hbq2⟩
                case measure => simp [intOf]; omega
              · obtain ⟨⟨T', o'⟩, hp'⟩ : ∃ p, D[k - 1]? = some p := ⟨_, List.getElem?_eq_getElem (by omega)⟩
                have hTT : T' < T := out_rises O hOt (k - 1) (T', o') (T, o) (by rw [← HD.out]; exact hp') (by rw [← HD.out, show k - 1 + 1 = k from by omega]; exact HTO.out)
                have cP : wq.cell? ⟨go, (k - 1) * 228 + 32 + 33, none⟩ = some (.int .u64 T') := by
                  rw [Nat.add_assoc, HOWN.out.cellAt ((k - 1) * 228 + (32 + 33)) (by omega), flat_get D (k - 1) (T', o') 65 hp' (by omega)]
                  exact ent_seq _
                clear hp'
                have hk1 : 0 < k := by omega
                go_wp2_with (first
                  | ((with_reducible show wpList _ _ _ (Oper.mk _ (Op.lookup 52 _ _ _) _ _ _ _ :: _) _ _); refine wpList_lookupV rfl 52 _ _ true rfl 54 23 Trym.underlying52 keys54 gm rfl _ hMq o rfl (.int .u64 0) Trym.zero23 (.tuple #[.int .u64 T, .bool true]) (by rw [if_pos rfl, HAT.out]; rfl) ?_)
                  | fail)
                go_roundw
                case rel => exact ⟨k + 1, by omega, by go_num, hbq2⟩
                case measure => simp [intOf]; omega
            · go_wp2
              go_ret
              exact ⟨rfl, hbell.trans (hbr.mono hbell.size)⟩
end Go.Proofs.Qxb6000998aMods.E
