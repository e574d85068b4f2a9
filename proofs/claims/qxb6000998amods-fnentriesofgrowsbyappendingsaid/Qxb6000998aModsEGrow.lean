import Derived.Test.Qxb6000998aModsEGHelp
namespace Go.Proofs.Qxb6000998aMods.E
open Go.RowKit Go.Proofs.Qxb6000998aMods.L

theorem set_last (us : List Value) (n : Nat) (hl : us.length = n) (u z : Value) : (us ++ [z]).set n u = us ++ [u] := by
  rw [List.set_append, if_neg (by omega), hl, Nat.sub_self, List.set_cons_zero]

set_option maxHeartbeats 16000000 in
set_option maxRecDepth 100000 in
theorem grows (a0 ae : Option Addr) (len cap ce : Nat) (O : List (List Int)) (E : List Int) (w : World) (hin : InRows w a0 len cap O) (hob : ∀ row ∈ O, ∀ o ∈ row, 0 ≤ o ∧ o ≤ 65535)
    (hie : InRow w (.slice ae E.length ce) E) (heb : ∀ o ∈ E, 0 ≤ o ∧ o ≤ 65535) :
    Calls Trym.prog 7 #[.slice a0 len cap, .slice ae E.length ce] w fun e w' => e = .returned (.bool true) ∧ Below w.heap.size w w' := by
  have HIN : Hid (InRows w a0 len cap O) := hin
  have HOB : Hid (∀ row ∈ O, ∀ o ∈ row, 0 ≤ o ∧ o ≤ 65535) := hob
  have HIE : Hid (InRow w (.slice ae E.length ce) E) := hie
  have HEB : Hid (∀ o ∈ E, 0 ≤ o ∧ o ≤ 65535) := heb
  clear hin hob hie heb
  go_enter Trym.func7, Trym.ntmps7
  go_wp2_with fail
  refine (zzb2_in HIN.out rfl).mono ?_
  rintro e w ⟨t, rfl, rfl⟩
  cases t with
  | false =>
    go_wp2
    go_ret
    exact ⟨rfl, Below.refl _ _⟩
  | true =>
    go_wp2_with fail
    refine (big2_in HIN.out rfl).mono ?_
    rintro e w ⟨t, rfl, rfl, hsm⟩
    cases t with
    | true =>
      go_wp2
      go_ret
      exact ⟨rfl, Below.refl _ _⟩
    | false =>
      obtain ⟨hOl0, hOt0⟩ := hsm rfl
      clear hsm
      have HOL : Hid (O.length < 65536) := hOl0
      have HOT : Hid (total O + E.length ≤ 65536) := hOt0
      have hOl : O.length ≤ 65536 := by omega
      have hEl : E.length ≤ 65536 := by omega
      have hrl : ∀ row ∈ O, row.length ≤ 65536 := fun row hrow => Nat.le_trans (row_le_total O row hrow) (by omega)
      have HRL : Hid (∀ row ∈ O, row.length ≤ 65536) := hrl
      clear hrl hOl0 hOt0
      go_wp2_with fail
      refine (cloneOwners_in HIN.out hOl HRL.out rfl).mono ?_
      rintro e w1 ⟨vO, rfl, hOw, hb1⟩
      go_wp2_with fail
      refine (cloneRow_in HIE.out hEl hb1).mono ?_
      rintro e w2 ⟨vE, rfl, hRE, hb2⟩
      have hOw2 := hOw.all hb2
      have hbel2 : Below w.heap.size w w2 := hb1.trans (hb2.mono hb1.size)
      obtain ⟨aO, rfl⟩ := hOw.shape
      obtain ⟨aE, rfl⟩ := hRE.shape
      clear hOw hb1 hb2
      obtain ⟨us, hul, hucell, hurow⟩ := hOw2.cells
      go_wp2_with (first | (at_make; refine wpList_makeB rfl _ _ 45 rfl 53 (.slice none 0 0) [.slice none 0 0] rfl 1 24 rfl Trym.underlying45 Trym.info53 _ _ _ _ (O.length + 1) rfl rfl (by go_num) (by go_num) (by omega) (by unfold maxLen; omega) ?_; intro gA w3 hgA hBA hgr3) | fail)
      replace hBA : Blk w3 gA (List.replicate (O.length + 1) (Value.slice none 0 0)) 53 := by first | exact hBA | simpa [flat_one_cells] using hBA
      have hb3 := grownBelow hgr3
      go_loopw [6] (fun i wr => ∃ k : Nat, k ≤ O.length ∧ i = .int .i64 k ∧ Blk wr gA (us.take k ++ List.replicate (O.length + 1 - k) (Value.slice none 0 0)) 53 ∧ Below w2.heap.size w2 wr)
        (fun i _ => O.length - (intOf i).toNat)
      case atStart => exact ⟨0, Nat.zero_le _, rfl, by simpa using hBA, hb3⟩
      case round =>
        obtain ⟨k, hk, rfl, hBr, hbr⟩ := hrel
        clear hBA hgr3 hb3
        by_cases hlt : k < O.length
        · obtain ⟨u, hu⟩ : ∃ u, us[k]? = some u := ⟨_, List.getElem?_eq_getElem (by omega)⟩
          obtain ⟨g, rfl, hcu⟩ := hucell k u hu
          obtain ⟨ou, cu⟩ := (hurow k u _ hu (List.getElem?_eq_getElem hlt)).oneCell
          have hcr : wr.cell? ⟨g, k, none⟩ = some u := (hbr.cell (World.block_lt_of_cell? w2 _ hcu)).trans hcu
          have HT : Hid (us.take (k + 1) = us.take k ++ [u]) := by
            obtain ⟨h1, h2⟩ := List.getElem?_eq_some_iff.1 hu
            show _ = _
            rw [List.take_succ_eq_append_getElem h1, h2]
          have hkl : (us.take k).length = k := by simp; omega
          clear hcu hu hucell hurow
          go_wp2_with (first | ((with_reducible show wpList _ _ _ (Oper.mk _ (Op.store 53 _ _) _ _ _ _ :: _) _ _); refine wpList_store1B rfl 53 _ _ rfl gA k rfl u rfl cu ou _ 53 hBr Trym.size53 (by simp; omega) ?_; intro w4 hB4 hg4) | fail)
          rw [set_mid (us.take k) (O.length + 1) k u _ hkl (by omega), ← HT.out] at hB4
          go_roundw
          case rel => exact ⟨k + 1, by omega, by go_num, hB4, hbr.grown hg4 hbr.size (fun q hq => by cases hq; exact hgA)⟩
          case measure => simp [intOf]; omega
        · obtain rfl : k = O.length := by omega
          rw [List.take_of_length_le (by omega), show O.length + 1 - O.length = 1 from by omega] at hBr
          obtain ⟨oe, ce'⟩ := hRE.oneCell
          go_wp2_with (first | ((with_reducible show wpList _ _ _ (Oper.mk _ (Op.store 53 _ _) _ _ _ _ :: _) _ _); refine wpList_store1B rfl 53 _ _ rfl gA O.length rfl (.slice aE E.length E.length) rfl ce' oe _ 53 hBr Trym.size53 (by simp; omega) ?_; intro w4 hB4 hg4) | fail)
          replace hB4 : Blk w4 gA (us ++ [.slice aE E.length E.length]) 53 := by rw [show List.replicate 1 (Value.slice none 0 0) = [Value.slice none 0 0] from rfl, set_last us O.length hul] at hB4; exact hB4
          have hb4 : Below w2.heap.size w2 w4 := hbr.grown hg4 hbr.size (fun q hq => by cases hq; exact hgA)
          have hAll : Owners w4 (.slice (some ⟨gA, 0, none⟩) (O.length + 1) (O.length + 1)) (O ++ [E]) := by
            refine .inr ⟨gA, us ++ [.slice aE E.length E.length], by simp, hB4, by simp [hul], ?_⟩
            intro i u zs h1 h2
            by_cases hi : i < O.length
            · rw [List.getElem?_append_left (by omega)] at h1 h2
              exact (hurow i u zs h1 h2).all hb4
            · rw [List.getElem?_append_right (by omega)] at h1 h2
              by_cases hi2 : i = O.length
              · subst hi2
                rw [hul, Nat.sub_self] at h1
                rw [Nat.sub_self] at h2
                simp at h1 h2
                subst h1 h2
                exact hRE.all hb4
              · rw [List.getElem?_eq_none (by simp; omega)] at h1
                cases h1
          have hOw4 := hOw2.all hb4
          have hRE4 := hRE.all hb4
          have hbel4 : Below w.heap.size w w4 := hbel2.trans (hb4.mono hbel2.size)
          clear hB4 hg4 hbr hBr hRE hOw2 hbel2 hb4 hurow hucell hul oe ce' hgA
          refine (build_in hAll (by simp; omega) (fun row hrow => by rcases List.mem_append.1 hrow with h | h; exact HRL.out row h; simp at h; subst h; exact hEl) (fun row hrow o ho => by rcases List.mem_append.1 hrow with h | h; exact HOB.out row h o ho; simp at h; subst h; exact HEB.out o ho)).mono ?_
          rintro e w5 ⟨vR, rfl, hRes, hb5⟩
          have hOw5 := hOw4.all hb5
          have hRE5 := hRE4.all hb5
          have hbel5 : Below w.heap.size w w5 := hbel4.trans (hb5.mono hbel4.size)
          clear hOw4 hRE4 hbel4 hb5 hAll
          obtain ⟨gR, vs, rfl, hBR, hvl, hER⟩ := hRes
          have hRl : (resE (O ++ [E])).length = O.length + 1 := by rw [resE_length]; simp
          have HER : Hid (∀ (i : Nat) u L, vs[i]? = some u → (resE (O ++ [E]))[i]? = some L → ERow w5 u L) := hER
          have HTA : Hid ((resE (O ++ [E])).flatten.length ≤ 65536) := by
            show _ ≤ _
            have h1 := HOT.out
            have h2 := flatten_len O
            rw [resE_snoc, List.flatten_append, List.length_append, List.flatten_singleton, rowE_length]
            omega
          rw [hRl] at hvl ⊢
          clear hER
          go_wp2_with fail
          have H := zz_any gR (O.length + 1) vs (resE O) w5 (by rw [resE_length]; omega) (by rw [flatten_len]; have := HOT.out; omega) hBR (by rw [resE_length]; omega)
            (fun i u L h1 h2 => HER.out i u L h1 (by rw [resE_snoc, List.getElem?_append_left (List.getElem?_eq_some_iff.1 h2).1]; exact h2))
          rw [resE_length] at H
          refine Calls.mono H ?_
          clear H
          rintro e w6 ⟨vB, rfl, hownB, hb6⟩
          have hBR6 := hBR.all hb6
          have HER6 : Hid (∀ (i : Nat) u L, vs[i]? = some u → (resE (O ++ [E]))[i]? = some L → ERow w6 u L) := fun i u L h1 h2 => (HER.out i u L h1 h2).all hb6
          have hOw6 := hOw5.all hb6
          have hRE6 := hRE5.all hb6
          have hbel6 : Below w.heap.size w w6 := hbel5.trans (hb6.mono hbel5.size)
          clear hBR HER hOw5 hRE5 hbel5 hb6
          go_wp2_with fail
          have H := zz_any gR (O.length + 1) vs (resE (O ++ [E])) w6 (by omega) HTA.out hBR6 (by omega) HER6.out
          rw [hRl] at H
          refine Calls.mono H ?_
          clear H
          rintro e w7 ⟨vA, rfl, hownA, hb7⟩
          have hOw7 := hOw6.all hb7
          have hRE7 := hRE6.all hb7
          have hownB7 := own_all hownB hb7
          have hbel7 : Below w.heap.size w w7 := hbel6.trans (hb7.mono hbel6.size)
          clear hBR6 HER6 hOw6 hRE6 hbel6 hb7 hownB hRl hvl
          rw [grown_all] at hownA
          obtain ⟨D, hD⟩ : ∃ D, D = dd (resE O).flatten := ⟨_, rfl⟩
          obtain ⟨F, hF⟩ : ∃ F, F = newOf O.flatten (fx E) := ⟨_, rfl⟩
          rw [← hD] at hownA hownB7
          rw [← hF, List.length_append, List.length_map] at hownA
          have hDl : D.length ≤ 65536 := by rw [hD]; exact Nat.le_trans (dd_length_le _) (by rw [flatten_len]; have := HOT.out; omega)
          have hFl : F.length ≤ 65536 := by rw [hF]; exact Nat.le_trans (newOf_le _ _) (Nat.le_trans (dd_length_le _) (by rw [rowE_length]; exact hEl))
          have HF : Hid (F = newOf O.flatten (fx E)) := hF
          clear hD hF
          obtain ⟨ab, cb, hvB, hab⟩ := own_form hownB7
          obtain ⟨aa, ca, hvA, haa⟩ := own_form hownA
          subst hvB
          subst hvA
          go_wp2_with (first | ((with_reducible show wpList _ _ _ (Oper.mk _ (Op.makeMap _ _) _ _ _ _ :: _) _ _); refine wpList_makeMapB (fun a : Int => Value.int .u16 a) rfl 64 rfl ?_; intro gm w8 hgm hM hgr8) | fail)
          have hb8 : Below w7.heap.size w7 w8 := grownBelow hgr8
          clear hgr8
          go_loopw [11] (fun i wr => ∃ (k : Nat) (kv : List (Int × Value)), k ≤ O.length ∧ i = .int .i64 k ∧ MapB wr gm (fun a : Int => Value.int .u16 a) kv ∧ Seen kv (O.take k).flatten ∧ Below w7.heap.size w7 wr)
            (fun i _ => O.length - (intOf i).toNat)
          case atStart => exact ⟨0, [], Nat.zero_le _, rfl, hM, fun o => by simp [atKey], hb8⟩
          case round =>
            obtain ⟨wo, rfl⟩ : ∃ wo : World, wo = wr := ⟨_, rfl⟩
            obtain ⟨k, kv, hk, rfl, hMo, hSo, hbo⟩ := hrel
            have HSO : Hid (Seen kv (O.take k).flatten) := hSo
            clear hM hb8 hSo
            by_cases hlt : k < O.length
            · obtain ⟨zs, hz⟩ : ∃ zs, O[k]? = some zs := ⟨_, List.getElem?_eq_getElem hlt⟩
              obtain ⟨g, haO, u, hcu, hel⟩ := hOw7.at hz
              subst haO
              have hzl : zs.length ≤ 65536 := HRL.out zs (List.mem_of_getElem? hz)
              have hcuo : wo.cell? ⟨g, k, none⟩ = some (.slice u zs.length zs.length) := (hbo.cell (World.block_lt_of_cell? w7 _ hcu)).trans hcu
              have HTK : Hid ((O.take (k + 1)).flatten = (O.take k).flatten ++ zs) := by
                show _ = _
                rw [List.take_succ_eq_append_getElem hlt, List.flatten_append, (List.getElem?_eq_some_iff.1 hz).2]
                simp
              clear hz
              have hgw : g < w7.heap.size := World.block_lt_of_cell? w7 _ hcu
              go_wp2
              go_loopw [12] (fun i wr => ∃ (j : Nat) (kv : List (Int × Value)), j ≤ zs.length ∧ i = .int .i64 j ∧ MapB wr gm (fun a : Int => Value.int .u16 a) kv ∧ Seen kv ((O.take k).flatten ++ zs.take j) ∧ Below w7.heap.size w7 wr)
                (fun i _ => zs.length - (intOf i).toNat)
              case atStart => exact ⟨0, kv, Nat.zero_le _, rfl, hMo, by simpa using HSO.out, hbo⟩
              case round =>
                obtain ⟨j, kv2, hj, rfl, hMr, hSr, hbr⟩ := hrel
                have HSR : Hid (Seen kv2 ((O.take k).flatten ++ zs.take j)) := hSr
                have hcur : wr.cell? ⟨g, k, none⟩ = some (.slice u zs.length zs.length) := (hbr.cell (by exact hgw)).trans hcu
                clear hMo hbo hcuo hSr HSO
                by_cases hjl : j < zs.length
                · obtain ⟨o, ho⟩ : ∃ o, zs[j]? = some o := ⟨_, List.getElem?_eq_getElem hjl⟩
                  obtain ⟨b, rfl, hco⟩ := hel j o ho
                  have hcor : wr.cell? ⟨b, j, none⟩ = some (.int .u16 o) := (hbr.cell (World.block_lt_of_cell? w7 _ hco)).trans hco
                  have HTJ : Hid (zs.take (j + 1) = zs.take j ++ [o]) := by
                    obtain ⟨h1, h2⟩ := List.getElem?_eq_some_iff.1 ho
                    show _ = _
                    rw [List.take_succ_eq_append_getElem h1, h2]
                  clear ho hel hco
                  go_wp2_with (first
                    | ((with_reducible show wpList _ _ _ (Oper.mk _ (Op.mapUpdate 64 _ _ _) _ _ _ _ :: _) _ _); refine wpList_updateB rfl 64 _ _ _ rfl 54 4 Trym.underlying64 keys54 gm rfl _ hMr o rfl (.bool true) rfl ?_; intro w9 hM9 hgr9)
                    | fail)
                  have hb9 : Below w7.heap.size w7 w9 := hbr.grown hgr9 hbr.size (fun x hx => by cases hx; exact hgm)
                  have hS9 := HSR.out.put o
                  rw [List.append_assoc, ← HTJ.out] at hS9
                  go_roundw
                  case rel => exact ⟨j + 1, _, by omega, by go_num, hM9, hS9, hb9⟩
                  case measure => simp [intOf]; omega
                · obtain rfl : j = zs.length := by omega
                  have hS2 := HSR.out
                  rw [List.take_length, ← HTK.out] at hS2
                  have HS2 : Hid (Seen kv2 (O.take (k + 1)).flatten) := hS2
                  clear hS2
                  go_wp2
                  go_roundw
                  case rel => exact ⟨k + 1, kv2, by omega, by go_num, hMr, HS2.out, hbr⟩
                  case measure => simp [intOf]; omega
            · obtain rfl : k = O.length := by omega
              have hS2 := HSO.out
              rw [List.take_length] at hS2
              have HS : Hid (Seen kv O.flatten) := hS2
              clear hS2 HSO
              have hOwo := hOw7.all hbo
              have hREo := hRE7.all hbo
              have hownAo := own_all hownA hbo
              have hownBo := own_all hownB7 hbo
              have hbelo : Below w.heap.size w wo := hbel7.trans (hbo.mono hbel7.size)
              clear hOw7 hRE7 hownA hownB7 hbel7 hbo hgm
              go_wp2_with (first | ((with_reducible show wpList _ _ _ (Oper.mk _ (Op.makeMap _ _) _ _ _ _ :: _) _ _); refine wpList_makeMapB (fun a : Int => Value.int .u16 a) rfl 65 rfl ?_; intro gx w8 hgx hX hgr8) | fail)
              have hb8 : Below wo.heap.size wo w8 := grownBelow hgr8
              clear hgr8
              go_loopw [14, 15] (fun d i wr => ∃ j : Nat, j ≤ E.length ∧ i = .int .i64 j ∧ d = .int .i64 (newOf O.flatten (dd ((rowE 0 E).take j))).length ∧ MapB wr gx (fun a : Int => Value.int .u16 a) (fstI (dd ((rowE 0 E).take j))) ∧ Below wo.heap.size wo wr)
                (fun _ i _ => E.length - (intOf i).toNat)
              case atStart => exact ⟨0, Nat.zero_le _, rfl, by simp [dd, newOf], by simpa [dd, fstI] using hX, hb8⟩
              case round =>
                obtain ⟨j, hj, rfl, rfl, hXr, hbr⟩ := hrel
                clear hX hb8
                have hMr := hMo.all hbr
                by_cases hjl : j < E.length
                · obtain ⟨o, ho⟩ : ∃ o, E[j]? = some o := ⟨_, List.getElem?_eq_getElem hjl⟩
                  obtain ⟨b, rfl, hco⟩ := hREo.at ho
                  have hcor : wr.cell? ⟨b, j, none⟩ = some (.int .u16 o) := (hbr.cell (World.block_lt_of_cell? wo _ hco)).trans hco
                  have HST0 : Hid (dd ((rowE 0 E).take (j + 1)) = step (dd ((rowE 0 E).take j)) (tag 0 j, o)) := by
                    show _ = _
                    rw [take_ent1 (rowE 0 E) j (tag 0 j, o) (by rw [rowE_get, ho]; rfl), dd_snoc]
                  have hacl : (newOf O.flatten (dd ((rowE 0 E).take j))).length ≤ 65536 := Nat.le_trans (newOf_le _ _) (Nat.le_trans (dd_length_le _) (by rw [List.length_take, rowE_length]; omega))
                  obtain ⟨acc, hacc⟩ : ∃ acc, acc = dd ((rowE 0 E).take j) := ⟨_, rfl⟩
                  rw [← hacc] at hXr hacl HST0 ⊢
                  clear hacc ho hco
                  cases hh : acc.any (fun x => decide (x.2 = o)) with
                  | true =>
                    obtain ⟨y, hy⟩ := fstI_some hh
                    have HST : Hid (step acc (tag 0 j, o) = acc) := step_hit hh
                    have HY : Hid (atKey o (fstI acc) 0 = some y) := hy
                    clear hh hy
                    go_wp2_with (first
                      | ((with_reducible show wpList _ _ _ (Oper.mk _ (Op.lookup 65 _ _ _) _ _ _ _ :: _) _ _); refine wpList_lookupV rfl 65 _ _ true rfl 54 3 Trym.underlying65 keys54 gx rfl _ hXr o rfl (.int .i64 0) Trym.zero3 (.tuple #[y.2, .bool true]) (by rw [if_pos rfl, HY.out]; rfl) ?_)
                      | fail)
                    go_roundw
                    case rel =>
                      refine ⟨j + 1, by omega, by go_num, ?_, ?_, hbr⟩
                      · rw [HST0.out, HST.out]
                      · rw [HST0.out, HST.out]; exact hXr
                    case measure => simp [intOf]; omega
                  | false =>
                    have hy := fstI_none hh
                    have HST : Hid (step acc (tag 0 j, o) = acc ++ [(tag 0 j, o)]) := step_miss hh
                    have HY : Hid (atKey o (fstI acc) 0 = none) := hy
                    clear hh hy
                    by_cases hS : o ∈ O.flatten
                    · have HL : Hid (((atKey o kv 0).map (·.2)).getD (.bool false) = .bool true) := by
                        have := HS.out.look o
                        rw [show decide (o ∈ O.flatten) = true from decide_eq_true hS] at this
                        exact this
                      have HN : Hid (newOf O.flatten (acc ++ [(tag 0 j, o)]) = newOf O.flatten acc) := newOf_hit _ _ _ hS
                      clear hS
                      go_wp2_with (first
                        | ((with_reducible show wpList _ _ _ (Oper.mk _ (Op.lookup 65 _ _ _) _ _ _ _ :: _) _ _); refine wpList_lookupV rfl 65 _ _ true rfl 54 3 Trym.underlying65 keys54 gx rfl _ hXr o rfl (.int .i64 0) Trym.zero3 (.tuple #[.int .i64 0, .bool false]) (by rw [if_pos rfl, HY.out]; rfl) ?_)
                        | ((with_reducible show wpList _ _ _ (Oper.mk _ (Op.mapUpdate 65 _ _ _) _ _ _ _ :: _) _ _); refine wpList_updateNew rfl 65 _ _ _ rfl 54 3 Trym.underlying65 keys54 gx rfl _ hXr o rfl (.int .i64 j) rfl HY.out ?_; intro w9 hX9 hgr9; have hb9 : Below wo.heap.size wo w9 := hbr.grown hgr9 hbr.size (fun x hx => by cases hx; exact hgx); have hM9 := hMo.all hb9)
                        | ((with_reducible show wpList _ _ _ (Oper.mk _ (Op.lookup 64 _ _ _) _ _ _ _ :: _) _ _); refine wpList_lookupV rfl 64 _ _ false rfl 54 4 Trym.underlying64 keys54 gm rfl _ hM9 o rfl (.bool false) Trym.zero4 (.bool true) (by rw [if_neg (by decide)]; exact HL.out) ?_))
                      go_roundw
                      case rel =>
                        refine ⟨j + 1, by omega, by go_num, ?_, ?_, hb9⟩
                        · rw [HST0.out, HST.out, HN.out]
                        · rw [HST0.out, HST.out, fstI_snoc, tag0]; exact hX9
                      case measure => simp [intOf]; omega
                    · have HL : Hid (((atKey o kv 0).map (·.2)).getD (.bool false) = .bool false) := by
                        have := HS.out.look o
                        rw [show decide (o ∈ O.flatten) = false from decide_eq_false hS] at this
                        exact this
                      have HN : Hid (newOf O.flatten (acc ++ [(tag 0 j, o)]) = newOf O.flatten acc ++ [(tag 0 j, o)]) := newOf_miss _ _ _ hS
                      clear hS
                      go_wp2_with (first
                        | ((with_reducible show wpList _ _ _ (Oper.mk _ (Op.lookup 65 _ _ _) _ _ _ _ :: _) _ _); refine wpList_lookupV rfl 65 _ _ true rfl 54 3 Trym.underlying65 keys54 gx rfl _ hXr o rfl (.int .i64 0) Trym.zero3 (.tuple #[.int .i64 0, .bool false]) (by rw [if_pos rfl, HY.out]; rfl) ?_)
                        | ((with_reducible show wpList _ _ _ (Oper.mk _ (Op.mapUpdate 65 _ _ _) _ _ _ _ :: _) _ _); refine wpList_updateNew rfl 65 _ _ _ rfl 54 3 Trym.underlying65 keys54 gx rfl _ hXr o rfl (.int .i64 j) rfl HY.out ?_; intro w9 hX9 hgr9; have hb9 : Below wo.heap.size wo w9 := hbr.grown hgr9 hbr.size (fun x hx => by cases hx; exact hgx); have hM9 := hMo.all hb9)
                        | ((with_reducible show wpList _ _ _ (Oper.mk _ (Op.lookup 64 _ _ _) _ _ _ _ :: _) _ _); refine wpList_lookupV rfl 64 _ _ false rfl 54 4 Trym.underlying64 keys54 gm rfl _ hM9 o rfl (.bool false) Trym.zero4 (.bool false) (by rw [if_neg (by decide)]; exact HL.out) ?_))
                      go_roundw
                      case rel =>
                        refine ⟨j + 1, by omega, by go_num, ?_, ?_, hb9⟩
                        · rw [HST0.out, HST.out, HN.out, List.length_append]; go_num
                        · rw [HST0.out, HST.out, fstI_snoc, tag0]; exact hX9
                      case measure => simp [intOf]; omega
                · obtain rfl : j = E.length := by omega
                  have hE2 : (rowE 0 E).take E.length = rowE 0 E := List.take_of_length_le (by rw [rowE_length]; omega)
                  rw [hE2] at hXr ⊢
                  have hF2 : newOf O.flatten (dd (rowE 0 E)) = F := HF.out.symm
                  rw [hF2]
                  clear hE2 hF2
                  obtain ⟨ws, rfl⟩ : ∃ ws : World, ws = wr := ⟨_, rfl⟩
                  have hOws := hOwo.all hbr
                  have hREs := hREo.all hbr
                  have hAs := own_all hownAo hbr
                  have hBs := own_all hownBo hbr
                  have hbels : Below w.heap.size w ws := hbelo.trans (hbr.mono hbelo.size)
                  clear hOwo hREo hownAo hownBo hbelo hbr hMo hgx
                  go_wp2
                  go_loopw [19] (fun i wr => ∃ k : Nat, k ≤ D.length ∧ i = .int .i64 k ∧ Below ws.heap.size ws wr)
                    (fun i _ => D.length - (intOf i).toNat)
                  case atStart => exact ⟨0, Nat.zero_le _, rfl, Below.refl _ _⟩
                  case round =>
                    obtain ⟨k, hk, rfl, hbr⟩ := hrel
                    by_cases hlt : k < D.length
                    · obtain ⟨⟨T, o⟩, hTo⟩ : ∃ p, D[k]? = some p := ⟨_, List.getElem?_eq_getElem hlt⟩
                      obtain ⟨gb, rfl⟩ := hab (by omega)
                      obtain ⟨ga, rfl⟩ := haa (by omega)
                      obtain ⟨fs58, hfs58⟩ := struct58
                      have rb : ∀ w', Below wr.heap.size wr w' → w'.rangeAt gb (0 + k * 228) (ent (T, o)) := fun w' hw' => by
                        rw [Nat.zero_add]; exact own_ent (own_all (own_all hBs hbr) hw') rfl hTo
                      have ra : ∀ w', Below wr.heap.size wr w' → w'.rangeAt ga (0 + k * 228) (ent (T, o)) := fun w' hw' => by
                        rw [Nat.zero_add]; exact own_ent (own_all (own_all hAs hbr) hw') (by simp) (by rw [List.getElem?_append_left hlt]; exact hTo)
                      have hkA : k < D.length + F.length := by omega
                      go_wp2
                      refine wp_region_quietC (fun w' => Below wr.heap.size wr w') (by kernel_rfl) (by kernel_rfl) (Below.refl _ _).drew ?_
                      refine wpQuiet_mv _ _ rfl rfl rfl ?_
                      go_frame
                      refine wpQuiet_mv _ _ rfl rfl rfl ?_
                      go_frame
                      refine wpQuiet_val rfl (.pointer (some ⟨gb, 0 + k * 228, none⟩)) (fun w' _ => exec_indexB 48 58 _ _ rfl gb 0 _ _ rfl .i64 k rfl hlt Trym.underlying48 228 Trym.size58) ?_
                      go_frame
                      refine wpQuiet_val rfl (.agg (ent (T, o)).toArray) (fun w' hw' => exec_loadB 58 _ rfl gb _ rfl (ent (T, o)) (rb w' hw') _ hfs58 rfl (by rw [ent_length]; exact Trym.size58)) ?_
                      go_frame
                      refine wpQuiet_mv _ _ rfl rfl rfl ?_
                      go_frame
                      refine wpQuiet_mv _ _ rfl rfl rfl ?_
                      go_frame
                      refine wpQuiet_val rfl (.pointer (some ⟨ga, 0 + k * 228, none⟩)) (fun w' _ => exec_indexB 48 58 _ _ rfl ga 0 _ _ rfl .i64 k rfl hkA Trym.underlying48 228 Trym.size58) ?_
                      go_frame
                      refine wpQuiet_val rfl (.agg (ent (T, o)).toArray) (fun w' hw' => exec_loadB 58 _ rfl ga _ rfl (ent (T, o)) (ra w' hw') _ hfs58 rfl (by rw [ent_length]; exact Trym.size58)) ?_
                      go_frame
                      refine wpQuiet_callB rfl (.bool true) 27 #[.agg (ent (T, o)).toArray, .agg (ent (T, o)).toArray] (fun w' => by simp [go_sem]) (fun w' hw' => (entryEq_any T o w').mono (fun e w'' h => ⟨h.1, hw'.trans (h.2.mono hw'.size)⟩)) ?_
                      go_frame
                      refine wpQuiet_val rfl (.bool false) (fun w' _ => exec_not 4 _ rfl true rfl) ?_
                      go_frame
                      refine wpQuiet_nil ?_
                      intro wq hbq
                      clear ra rb
                      have hbq2 : Below ws.heap.size ws wq := hbr.trans (hbq.mono hbr.size)
                      clear hbq hbr
                      go_wp2
                      go_roundw
                      case rel => exact ⟨k + 1, by omega, by go_num, hbq2⟩
                      case measure => simp [intOf]; omega
                    · obtain rfl : k = D.length := by omega
                      obtain ⟨wt, rfl⟩ : ∃ wt : World, wt = wr := ⟨_, rfl⟩
                      have hAt := own_all hAs hbr
                      have hREt := hREs.all hbr
                      have hMt := hMr.all hbr
                      have hXt := hXr.all hbr
                      have hbelt : Below w.heap.size w wt := hbels.trans (hbr.mono hbels.size)
                      clear hOws hREs hAs hBs hbels hbr hMr hXr
                      go_wp2
                      go_loopw [20, 21] (fun p i wr => ∃ (m : Nat) (P : Int), D.length ≤ m ∧ m ≤ D.length + F.length ∧ i = .int .i64 m ∧ p = .int .i64 P ∧ (∀ q, F[m - D.length]? = some q → P < q.1) ∧ -1 ≤ P ∧ P ≤ 65536 ∧ Below wt.heap.size wt wr)
                        (fun _ i _ => D.length + F.length - (intOf i).toNat)
                      case atStart =>
                        refine ⟨D.length, -1, Nat.le_refl _, by omega, rfl, rfl, fun q hq => ?_, by omega, by omega, Below.refl _ _⟩
                        rw [HF.out] at hq
                        obtain ⟨t, ht, _⟩ := fx_mem (newOf_facts hq).1
                        omega
                      case round =>
                        obtain ⟨m, P, hm1, hm2, rfl, rfl, hP, hP1, hP2, hbr⟩ := hrel
                        by_cases hlt : m < D.length + F.length
                        · obtain ⟨⟨T0, o⟩, hq⟩ : ∃ q, F[m - D.length]? = some q := ⟨_, List.getElem?_eq_getElem (by omega)⟩
                          have hq' := hq
                          rw [HF.out] at hq'
                          obtain ⟨hmem, hnS⟩ := newOf_facts hq'
                          obtain ⟨t, hT, hEt⟩ := fx_mem hmem
                          simp only at hT hEt hnS
                          subst hT
                          have hPt := hP _ hq
                          simp only at hPt
                          obtain ⟨ga, rfl⟩ := haa (by omega)
                          obtain ⟨b, rfl, hco⟩ := hREt.at hEt
                          have htl : t < E.length := (List.getElem?_eq_some_iff.1 hEt).1
                          have ho := HEB.out o (List.mem_of_getElem? hEt)
                          obtain ⟨fs58, hfs58⟩ := struct58
                          obtain ⟨T, hTT⟩ : ∃ T, T = tag O.length t := ⟨_, rfl⟩
                          have hAk : (D ++ F.map (up O.length))[m]? = some (T, o) := by
                            rw [List.getElem?_append_right hm1, List.getElem?_map, hq, hTT]; rfl
                          have hra := own_ent (own_all hAt hbr) (by simp) hAk
                          have tH := tag_hi O.length t (by omega)
                          have tL := tag_lo O.length t (by omega) (by omega)
                          have tP := tag_pos O.length t (by omega) (by omega)
                          rw [← hTT] at tH tL tP
                          have HNX : Hid (∀ q, F[m + 1 - D.length]? = some q → (t : Int) < q.1) := by
                            intro q hq2
                            rw [show m + 1 - D.length = m - D.length + 1 from by omega, HF.out] at hq2
                            exact newOf_rises hq' hq2
                          have HX : Hid (((atKey o (fstI (dd (rowE 0 E))) 0).map (·.2)).getD (.int .i64 0) = .int .i64 t) := by
                            show _ = _
                            rw [fstI_at (rowE 0 E) t o hmem]; rfl
                          have HL : Hid (((atKey o kv 0).map (·.2)).getD (.bool false) = .bool false) := by
                            have := HS.out.look o
                            rw [show decide (o ∈ O.flatten) = false from decide_eq_false hnS] at this
                            exact this
                          have HCO : Hid (wt.cell? ⟨b, t, none⟩ = some (.int .u16 o)) := hco
                          have k1 := ent_kind (T, o)
                          have k2 := ent_seq (T, o)
                          have k3 := ent_round (T, o)
                          have K0 : Hid (∀ w' g, Blk w' g (ent (T, o)) 58 → w'.rangeAt g 0 (keyC o)) := by
                            intro w' g hB
                            have := hB.range 0 32
                            rwa [ent_key0] at this
                          have hd : decide ((t : Int) ≤ P) = false := by simp; omega
                          have hdl : decide ((E.length : Int) ≤ (t : Int)) = false := by simp; omega
                          clear hAk hmem hnS hEt hPt hTT hq hq' hP hco
                          go_wp2_with (first
                            | ((with_reducible show wpList _ _ _ (Oper.mk _ (Op.load 58 _) _ _ _ _ :: _) _ _); refine wpList_val rfl (exec_loadB 58 _ rfl ga (m * 228) rfl (ent (T, o)) hra _ hfs58 rfl (by rw [ent_length]; exact Trym.size58)) ?_)
                            | ((with_reducible show wpList _ _ _ (Oper.mk _ (Op.alloc 58) _ _ _ _ :: _) _ _); refine wpList_allocB rfl 58 rfl (.agg z58.toArray) z58 Trym.zero58 rfl ?_; intro ge w2' hge hBe hgr2)
                            | ((with_reducible show wpList _ _ _ (Oper.mk _ (Op.store 58 _ _) _ _ _ _ :: _) _ _); refine wpList_storeB rfl 58 _ _ rfl ge 0 rfl (ent (T, o)) rfl z58 58 hBe (by rw [ent_length]; exact Trym.size58) (by rw [ent_length, z58_length]; omega) (ent_ones (T, o)) ?_; intro w3' hBe3 hgr3'; rw [put_ent] at hBe3; have hb3' : Below wr.heap.size wr w3' := (grownBelow hgr2).grown hgr3' hgr2.size (fun x hx => by cases hx; exact hge); have hbt3 : Below wt.heap.size wt w3' := hbr.trans (hb3'.mono hbr.size); have hcor : w3'.cell? ⟨b, t, none⟩ = some (.int .u16 o) := (hbt3.cell (World.block_lt_of_cell? wt _ HCO.out)).trans HCO.out; have c2 : w3'.cell? ⟨ge, 32 + 33, none⟩ = some (.int .u64 T) := (hBe3.cell _).trans k2))
                          refine wp_region_quietC (fun w' => Below w3'.heap.size w3' w') (by kernel_rfl) (by kernel_rfl) (Below.refl _ _).drew ?_
                          refine wpQuiet_val rfl (.pointer (some ⟨ge, 0, none⟩)) (fun w' _ => exec_field _ rfl ge 0 rfl) ?_
                          go_frame
                          refine wpQuiet_val rfl (.agg (keyC o).toArray) (fun w' hw' => exec_loadB 22 _ rfl ge 0 rfl (keyC o) (K0.out w' ge (hBe3.all hw')) _ Trym.underlying22 rfl (by rw [keyC_length]; exact Trym.size22)) ?_
                          go_frame
                          refine wpQuiet_mv _ _ rfl rfl rfl ?_
                          go_frame
                          refine wpQuiet_callB rfl (.agg (keyC o).toArray) 21 #[.int .u16 o] (fun w' => by simp [go_sem]) (fun w' hw' => (ownerKey_any o ho.1 ho.2 w').mono (fun e w'' h => ⟨h.1, hw'.trans (h.2.mono hw'.size)⟩)) ?_
                          go_frame
                          refine wpQuiet_val rfl (.bool false) (fun w' _ => exec_neq 22 _ _ 22 rfl _ _ rfl rfl false (neq_key o w') guard22) ?_
                          go_frame
                          refine wpQuiet_mv _ _ rfl rfl rfl ?_
                          go_frame
                          refine wpQuiet_val rfl (.pointer (some ⟨ge, 32, none⟩)) (fun w' _ => exec_field1 _ rfl ge rfl) ?_
                          go_frame
                          refine wpQuiet_val rfl (.pointer (some ⟨ge, 163, none⟩)) (fun w' _ => exec_field7 _ rfl ge rfl) ?_
                          go_frame
                          refine wpQuiet_val rfl (.int .u64 o) (fun w' hw' => exec_load1B 23 _ rfl ge 163 rfl _ 58 (hBe3.all hw') _ Trym.underlying23 rfl _ k3) ?_
                          go_frame
                          refine wpQuiet_mv _ _ rfl rfl rfl ?_
                          go_frame
                          refine wpQuiet_val rfl (.int .u64 o) (fun w' hw' => exec_of_conv _ _ _ rfl rfl (run_conv16 o ho.1 ho.2 w')) ?_
                          go_frame
                          refine wpQuiet_val rfl (.bool false) (fun w' hw' => exec_same .u64 23 _ _ 23 rfl o rfl rfl) ?_
                          go_frame
                          refine wpQuiet_val rfl (.bool false) (fun w' hw' => exec_pick _ _ _ rfl false _ rfl rfl) ?_
                          go_frame
                          refine wpQuiet_mv _ _ rfl rfl rfl ?_
                          go_frame
                          refine wpQuiet_val rfl (.pointer (some ⟨ge, 32, none⟩)) (fun w' _ => exec_field1 _ rfl ge rfl) ?_
                          go_frame
                          refine wpQuiet_val rfl (.pointer (some ⟨ge, 32, none⟩)) (fun w' _ => exec_field0 _ rfl ge rfl) ?_
                          go_frame
                          refine wpQuiet_val rfl (.int .u8 2) (fun w' hw' => exec_load1B 35 _ rfl ge 32 rfl _ 58 (hBe3.all hw') _ Trym.underlying35 rfl _ k1) ?_
                          go_frame
                          refine wpQuiet_val rfl (.bool false) (fun w' hw' => exec_same .u8 35 _ _ 35 rfl 2 rfl rfl) ?_
                          go_frame
                          refine wpQuiet_val rfl (.bool false) (fun w' hw' => exec_pick _ _ _ rfl false _ rfl rfl) ?_
                          go_frame
                          refine wpQuiet_nil ?_
                          intro wq hbq
                          have hbq2 : Below wt.heap.size wt wq := hbt3.trans (hbq.mono hbt3.size)
                          have hMq := hMt.all hbq2
                          have hXq := hXt.all hbq2
                          clear hbq hbt3 hb3' hBe3 hgr3' hgr2 hBe hcor c2 hra K0 k1 k2 k3 hge hbr
                          go_wp2_with (first
                            | ((with_reducible show wpList _ _ _ (Oper.mk _ (Op.lookup 64 _ _ _) _ _ _ _ :: _) _ _); refine wpList_lookupV rfl 64 _ _ false rfl 54 4 Trym.underlying64 keys54 gm rfl _ hMq o rfl (.bool false) Trym.zero4 (.bool false) (by rw [if_neg (by decide)]; exact HL.out) ?_)
                            | ((with_reducible show wpList _ _ _ (Oper.mk _ (Op.lookup 65 _ _ _) _ _ _ _ :: _) _ _); refine wpList_want rfl (exec_lookupV 65 _ _ false rfl 54 3 Trym.underlying65 keys54 gx rfl _ hXq o rfl (.int .i64 0) Trym.zero3 (.int .i64 t) (by rw [if_neg (by decide)]; exact HX.out)) ?_))
                          go_roundw
                          case rel => exact ⟨m + 1, t, by omega, by omega, by go_num, rfl, HNX.out, by omega, by omega, hbq2⟩
                          case measure => simp [intOf]; omega
                        · go_wp2
                          go_ret
                          exact ⟨rfl, hbelt.trans (hbr.mono hbelt.size)⟩
end Go.Proofs.Qxb6000998aMods.E
