import Derived.Test.Qxb6600849aModsEscApp
namespace Go.Proofs.Qxb6600849aMods.Esc
open Go.RowKit Go.Proofs.Qxb6600849aMods.Plain

theorem ret_two {a b : Int} (h : a = b) : Ending.returned (.tuple #[.int .i64 a, .bool true]) = .returned (.tuple #[.int .i64 b, .bool true]) := by rw [h]

set_option maxHeartbeats 1600000 in
theorem dec_two (c d : Int) (g o cap : Nat) (w : World) (c0 : w.cell? ⟨g, o, none⟩ = some (.int .u8 92)) (c1 : w.cell? ⟨g, o + 1, none⟩ = some (.int .u8 d))
    (hcd : (c = 34 ∧ d = 34) ∨ (c = 92 ∧ d = 92) ∨ (c = 8 ∧ d = 98) ∨ (c = 12 ∧ d = 102) ∨ (c = 10 ∧ d = 110) ∨ (c = 13 ∧ d = 114) ∨ (c = 9 ∧ d = 116)) :
    Calls Trym.prog 10 #[.slice (some ⟨g, o, none⟩) 2 cap] w fun e w' => e = .returned (.tuple #[.int .i64 c, .bool true]) ∧ w' = w := by
  rcases hcd with ⟨rfl, rfl⟩ | ⟨rfl, rfl⟩ | ⟨rfl, rfl⟩ | ⟨rfl, rfl⟩ | ⟨rfl, rfl⟩ | ⟨rfl, rfl⟩ | ⟨rfl, rfl⟩
  all_goals
    go_enter Trym.func10, Trym.ntmps10
    go_wp2
    go_ret2
    exact ⟨rfl, rfl⟩

theorem hv_hd_fin : ∀ n : Fin 16, hv (hd (n.val : Int)) = (n.val : Int) ∧ 48 ≤ hd (n.val : Int) ∧ hd (n.val : Int) ≤ 102 := by decide +kernel
theorem hv_hd (i : Int) (h0 : 0 ≤ i) (h1 : i < 16) : hv (hd i) = i ∧ 48 ≤ hd i ∧ hd i ≤ 102 := by
  have h := hv_hd_fin ⟨i.toNat, by omega⟩
  have e : ((i.toNat : Nat) : Int) = i := by omega
  simpa [e] using h

set_option maxHeartbeats 1600000 in
theorem dec_six (x y p q : Int) (g o cap : Nat) (w : World) (hx0 : 0 ≤ x) (hx1 : x < 16) (hy0 : 0 ≤ y) (hy1 : y < 16) (hp : hv p = x) (hq : hv q = y)
    (p0 : 0 ≤ p) (p1 : p ≤ 255) (q0 : 0 ≤ q) (q1 : q ≤ 255)
    (c0 : w.cell? ⟨g, o, none⟩ = some (.int .u8 92)) (c1 : w.cell? ⟨g, o + 1, none⟩ = some (.int .u8 117)) (c2 : w.cell? ⟨g, o + 2, none⟩ = some (.int .u8 48)) (c3 : w.cell? ⟨g, o + 3, none⟩ = some (.int .u8 48))
    (c4 : w.cell? ⟨g, o + 4, none⟩ = some (.int .u8 p)) (c5 : w.cell? ⟨g, o + 5, none⟩ = some (.int .u8 q)) :
    Calls Trym.prog 10 #[.slice (some ⟨g, o, none⟩) 6 cap] w fun e w' => e = .returned (.tuple #[.int .i64 (x * 16 + y), .bool true]) ∧ w' = w := by
  have H0 : Calls Trym.prog 19 #[.int .u8 48] w fun e w' => e = .returned (.int .i64 0) ∧ w' = w := hexval_any 48 w (by omega) (by omega)
  have HP : Calls Trym.prog 19 #[.int .u8 p] w fun e w' => e = .returned (.int .i64 x) ∧ w' = w := by rw [← hp]; exact hexval_any p w p0 p1
  have HQ : Calls Trym.prog 19 #[.int .u8 q] w fun e w' => e = .returned (.int .i64 y) ∧ w' = w := by rw [← hq]; exact hexval_any q w q0 q1
  have h0 : Hid _ := H0
  have h1 : Hid _ := HP
  have h2 : Hid _ := HQ
  clear H0 HP HQ hp hq
  go_enter Trym.func10, Trym.ntmps10
  go_wp2
  go_loop [4, 5] (fun v i => (i = .int .i64 2 ∧ v = .int .i64 0) ∨ (i = .int .i64 3 ∧ v = .int .i64 0) ∨ (i = .int .i64 4 ∧ v = .int .i64 0) ∨ (i = .int .i64 5 ∧ v = .int .i64 x) ∨ (i = .int .i64 6 ∧ v = .int .i64 (x * 16 + y)))
    (fun _ i => 6 - (intOf i).toNat)
  case atStart => exact Or.inl ⟨rfl, rfl⟩
  case round =>
    rcases hrel with ⟨rfl, rfl⟩ | ⟨rfl, rfl⟩ | ⟨rfl, rfl⟩ | ⟨rfl, rfl⟩ | ⟨rfl, rfl⟩
    · go_wp2_with fail
      refine Calls.mono h0.out ?_
      rintro e w' ⟨rfl, rfl⟩
      go_wp2
      go_round
      case rel => exact Or.inr (Or.inl ⟨rfl, rfl⟩)
      case measure => simp [intOf]
    · go_wp2_with fail
      refine Calls.mono h0.out ?_
      rintro e w' ⟨rfl, rfl⟩
      go_wp2
      go_round
      case rel => exact Or.inr (Or.inr (Or.inl ⟨rfl, rfl⟩))
      case measure => simp [intOf]
    · go_wp2_with fail
      refine Calls.mono h1.out ?_
      rintro e w' ⟨rfl, rfl⟩
      go_wp2
      go_round
      case rel => exact Or.inr (Or.inr (Or.inr (Or.inl ⟨rfl, by go_num⟩)))
      case measure => simp [intOf]
    · go_wp2_with fail
      refine Calls.mono h2.out ?_
      rintro e w' ⟨rfl, rfl⟩
      go_wp2
      go_round
      case rel => exact Or.inr (Or.inr (Or.inr (Or.inr ⟨rfl, by go_num⟩)))
      case measure => simp [intOf]
    · go_wp2
      go_ret2
      exact ⟨rfl, rfl⟩

/-- zzDecodeEscape at what appendEscape appended. -/
theorem dec_esc (c : Int) (h0 : 0 ≤ c) (h1 : c ≤ 255) (g o cap : Nat) (w : World) (hc : ∀ j, j < (esc c).length → w.cell? ⟨g, o + j, none⟩ = some (.int .u8 ((esc c).getD j 0))) :
    Calls Trym.prog 10 #[.slice (some ⟨g, o, none⟩) (esc c).length cap] w fun e w' => e = .returned (.tuple #[.int .i64 c, .bool true]) ∧ w' = w := by
  have two : ∀ d, esc c = [92, d] → ((c = 34 ∧ d = 34) ∨ (c = 92 ∧ d = 92) ∨ (c = 8 ∧ d = 98) ∨ (c = 12 ∧ d = 102) ∨ (c = 10 ∧ d = 110) ∨ (c = 13 ∧ d = 114) ∨ (c = 9 ∧ d = 116)) → Calls Trym.prog 10 #[.slice (some ⟨g, o, none⟩) (esc c).length cap] w fun e w' => e = .returned (.tuple #[.int .i64 c, .bool true]) ∧ w' = w := by
    intro d hd' hcd
    rw [hd'] at hc ⊢
    exact dec_two c d g o cap w (by simpa using hc 0 (by simp)) (by simpa using hc 1 (by simp)) hcd
  by_cases a' : c = 34 ∨ c = 92
  · exact two c (by unfold esc; rw [if_pos a']) (by omega)
  by_cases b : c = 8
  · exact two 98 (by unfold esc; rw [if_neg a', if_pos b]) (by omega)
  by_cases d : c = 12
  · exact two 102 (by unfold esc; rw [if_neg a', if_neg b, if_pos d]) (by omega)
  by_cases f : c = 10
  · exact two 110 (by unfold esc; rw [if_neg a', if_neg b, if_neg d, if_pos f]) (by omega)
  by_cases k : c = 13
  · exact two 114 (by unfold esc; rw [if_neg a', if_neg b, if_neg d, if_neg f, if_pos k]) (by omega)
  by_cases h : c = 9
  · exact two 116 (by unfold esc; rw [if_neg a', if_neg b, if_neg d, if_neg f, if_neg k, if_pos h]) (by omega)
  · have e : esc c = [92, 117, 48, 48, hd (c / 16), hd (c % 16)] := by unfold esc; rw [if_neg a', if_neg b, if_neg d, if_neg f, if_neg k, if_neg h]
    rw [e] at hc ⊢
    have ec : c / 16 * 16 + c % 16 = c := by omega
    obtain ⟨u1, u2, u3⟩ := hv_hd (c / 16) (by omega) (by omega)
    obtain ⟨v1, v2, v3⟩ := hv_hd (c % 16) (by omega) (by omega)
    have H := dec_six (c / 16) (c % 16) (hd (c / 16)) (hd (c % 16)) g o cap w (by omega) (by omega) (by omega) (by omega) u1 v1 (by omega) (by omega) (by omega) (by omega)
      (by simpa using hc 0 (by simp)) (by simpa using hc 1 (by simp)) (by simpa using hc 2 (by simp)) (by simpa using hc 3 (by simp)) (by simpa using hc 4 (by simp)) (by simpa using hc 5 (by simp))
    rw [ec] at H
    exact H

theorem esc_print (c : Int) (h0 : 0 ≤ c) (h1 : c ≤ 255) : ∀ j, j < (esc c).length → 32 ≤ (esc c).getD j 0 ∧ (esc c).getD j 0 ≤ 126 := by
  have F : ∀ n : Fin 256, ∀ j : Fin 6, j.val < (esc (n.val : Int)).length → 32 ≤ (esc (n.val : Int)).getD j.val 0 ∧ (esc (n.val : Int)).getD j.val 0 ≤ 126 := by decide +kernel
  have L : ∀ n : Fin 256, (esc (n.val : Int)).length ≤ 6 := by decide +kernel
  intro j hj
  have e : ((c.toNat : Nat) : Int) = c := by omega
  have hl := L ⟨c.toNat, by omega⟩
  simp only [e] at hl
  have h := F ⟨c.toNat, by omega⟩ ⟨j, by omega⟩
  simp only [e] at h
  exact h hj
theorem esc_len (c : Int) (h0 : 0 ≤ c) (h1 : c ≤ 255) : 2 ≤ (esc c).length ∧ (esc c).length ≤ 6 := by
  have L : ∀ n : Fin 256, 2 ≤ (esc (n.val : Int)).length ∧ (esc (n.val : Int)).length ≤ 6 := by decide +kernel
  have e : ((c.toNat : Nat) : Int) = c := by omega
  have hl := L ⟨c.toNat, by omega⟩
  simpa only [e] using hl
end Go.Proofs.Qxb6600849aMods.Esc
