import Derived.Test.Qxb6600849aModsEscDec
namespace Go.Proofs.Qxb6600849aMods.Esc
open Go.RowKit Go.Proofs.Qxb6600849aMods.Plain

/-- Too long an input: the law says true at once. -/
theorem top_big (a0 : Option Addr) (len0 cap0 : Nat) (c : Int) (w : World) (h : 1048576 < len0) :
    Calls Trym.prog 3 #[.slice a0 len0 cap0, .int .u8 c] w fun e w' => e = .returned (.bool true) ∧ Below w.heap.size w w' := by
  go_enter Trym.func3, Trym.ntmps3
  go_wp2_with (go_at_call 7; refine (bytes_big _ _ _ _ _ h).mono ?_; rintro e w ⟨rfl, rfl⟩)
  go_ret
  exact ⟨rfl, Below.refl _ _⟩

/-- The owned slice has its shape, where it holds anything. -/
theorem own_shape {w : World} {B : Nat} {v : Value} {n : Nat} {xs : List Value} (h : w.ownsRow B 5 1 v n xs) (hn : 0 < n) :
    ∃ g cap, v = .slice (some ⟨g, 0, none⟩) n cap ∧ n ≤ cap ∧ cap ≤ maxLen ∧ B ≤ g := by
  rcases h.2 with ⟨_, h0⟩ | ⟨g, cap, cur, hv, hb, _, hc, hm, _⟩
  · omega
  · exact ⟨g, cap, hv, hc, hm, hb⟩

set_option maxHeartbeats 1600000 in
/-- From the clone on: the clone is a slice v of the call's own, of len numbers. -/
theorem top_small (a0 : Option Addr) (len0 cap0 : Nat) (c : Int) (h0 : 0 ≤ c) (h1 : c ≤ 255) (w : World) (h : len0 ≤ 1048576) (xs : List Value)
    (HC : Hid (Calls Trym.prog 8 #[.slice a0 len0 cap0] w fun e w' => ∃ v, e = .returned v ∧ w'.ownsRow w.heap.size 5 1 v len0 xs ∧ Below w.heap.size w w')) :
    Calls Trym.prog 3 #[.slice a0 len0 cap0, .int .u8 c] w fun e w' => e = .returned (.bool true) ∧ Below w.heap.size w w' := by
  obtain ⟨hl1, hl2⟩ := esc_len c h0 h1
  have hpr := esc_print c h0 h1
  obtain ⟨es, hes⟩ : ∃ es, es = esc c := ⟨_, rfl⟩
  have HE : Hid (es = esc c) := hes
  rw [← hes] at hl1 hl2 hpr
  clear hes
  go_enter Trym.func3, Trym.ntmps3
  go_wp2_with (go_at_call 7; refine (bytes_small _ _ _ _ _ h).mono ?_; rintro e w ⟨rfl, rfl⟩)
  refine Calls.mono HC.out ?_
  rintro e w1 ⟨v, rfl, hown, hb1⟩
  go_wp2_with fail
  refine (zzapp_any c h0 h1 v len0 xs w.heap.size w1 hb1.size h hown).mono ?_
  rintro e w2 ⟨v2, rfl, hown2, hb2⟩
  rw [← HE.out] at hown2
  obtain ⟨g, cap, hv2, hcap, hcm, hg⟩ := own_shape hown2 (by omega)
  have hbel : Below w.heap.size w w2 := hb1.trans hb2
  have hxl : xs.length = len0 := by simpa using hown.1
  rw [hv2] at hown2 ⊢
  have hcell : ∀ j, j < es.length → w2.cell? ⟨g, len0 + j, none⟩ = some (.int .u8 (es.getD j 0)) := by
    intro j hj
    rw [hown2.cellAt (len0 + j) (by omega), List.getElem?_append_right (by omega), hxl]
    simp [List.getD, hj]
  unfold maxLen at hcm
  clear hown hown2 hb1 hb2 hv2 hxl HC
  go_wp2
  go_loop [8] (fun i => ∃ k : Nat, k ≤ es.length ∧ i = .int .i64 k) (fun i => es.length - (intOf i).toNat)
  case atStart => exact ⟨0, Nat.zero_le _, rfl⟩
  case round =>
    obtain ⟨k, hk, rfl⟩ := hrel
    by_cases hlt : k < es.length
    · have hck := hcell k hlt
      obtain ⟨q1, q2⟩ := hpr k hlt
      obtain ⟨z, hz⟩ : ∃ z, z = es.getD k 0 := ⟨_, rfl⟩
      rw [← hz] at hck q1 q2
      clear hz hpr hcell
      go_wp2
      go_round
      case rel => exact ⟨k + 1, by omega, by go_num⟩
      case measure => simp [intOf]; omega
    · clear hpr
      go_wp2_with fail
      have hcell' : ∀ j, j < (esc c).length → w2.cell? ⟨g, len0 + j, none⟩ = some (.int .u8 ((esc c).getD j 0)) := by rw [← HE.out]; exact hcell
      have D := dec_esc c h0 h1 g len0 (cap - len0) w2 hcell'
      rw [← HE.out] at D
      refine D.mono ?_
      rintro e w2 ⟨rfl, rfl⟩
      clear hcell hcell' D
      go_wp2
      go_ret
      exact ⟨by simp, hbel⟩
end Go.Proofs.Qxb6600849aMods.Esc
