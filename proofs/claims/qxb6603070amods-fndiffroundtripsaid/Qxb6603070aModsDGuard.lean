import Derived.Test.Qxb6603070aModsMWalks
namespace Go.Proofs.Qxb6603070aMods.M
open Go.RowKit Go.Proofs.Qxb6603070aMods.L

set_option maxHeartbeats 3200000 in
/-- zzAddBytes, what came before told too. -/
theorem addBytes_acc (acc : Nat) (a : Option Addr) (cap : Nat) (ss : List ByteArray) (w : World) (hA : At w a ss) (hacc : acc ≤ 1048577) :
    Calls Trym.prog 9 #[.int .i64 acc, .slice a ss.length cap] w fun e w' => ∃ r : Nat, e = .returned (.int .i64 r) ∧ w' = w ∧ r ≤ 1048577 ∧ (r ≤ 1048576 → ss.length ≤ 65536 ∧ acc ≤ 1048576) := by
  have HA : Hid (At w a ss) := hA
  clear hA
  by_cases h0 : 1048576 < acc
  · go_enter Trym.func9, Trym.ntmps9
    go_wp2
    go_ret
    exact ⟨1048577, rfl, rfl, Nat.le_refl _, by omega⟩
  · by_cases h1 : 1048576 < ss.length
    · go_enter Trym.func9, Trym.ntmps9
      go_wp2
      go_ret
      exact ⟨1048577, rfl, rfl, Nat.le_refl _, by omega⟩
    · have h0' : acc ≤ 1048576 := by omega
      have h1' : ss.length ≤ 1048576 := by omega
      clear h0 h1 hacc
      go_enter Trym.func9, Trym.ntmps9
      go_wp2
      go_loop [0, 5] (fun c i => ∃ k T : Nat, k ≤ ss.length ∧ i = .int .i64 k ∧ c = .int .i64 T ∧ 16 * ss.length ≤ T ∧ ((k = 0 ∧ T = acc + 16 * ss.length) ∨ T ≤ 1048576) ∧ T ≤ 17825792)
        (fun _ i => ss.length - (intOf i).toNat)
      case atStart => exact ⟨0, acc + 16 * ss.length, Nat.zero_le _, rfl, by go_num, by omega, .inl ⟨rfl, rfl⟩, by omega⟩
      case round =>
        obtain ⟨k, T, hk, rfl, rfl, hT1, hT2, hT3⟩ := hrel
        by_cases hlt : k < ss.length
        · obtain ⟨s, hs⟩ : ∃ s, ss[k]? = some s := ⟨_, List.getElem?_eq_getElem hlt⟩
          obtain ⟨b, off, rfl, hc⟩ := HA.out k s hs
          clear hs
          by_cases hT : 1048576 < T
          · go_wp2
            go_ret
            exact ⟨1048577, rfl, rfl, Nat.le_refl _, by omega⟩
          · have hT' : T ≤ 1048576 := by omega
            clear hT hT2 hT3
            by_cases hsz : 1048576 - (T : Int) < (s.size : Int)
            · go_wp2
              go_ret
              exact ⟨1048577, rfl, rfl, Nat.le_refl _, by omega⟩
            · have hsz' : s.size + T ≤ 1048576 := by omega
              go_wp2
              go_round
              case rel => exact ⟨k + 1, T + s.size, by omega, by go_num, by go_num, by omega, .inr (by omega), by omega⟩
              case measure => simp [intOf]; omega
        · go_wp2
          go_ret
          by_cases hT : T ≤ 1048577
          · exact ⟨T, rfl, rfl, hT, fun h => by omega⟩
          · exfalso
            obtain rfl : k = ss.length := by omega
            rcases hT2 with h | h
            · omega
            · omega


theorem guard4_long (a0 a1 a2 a3 : Option Addr) (n0 c0 n1 c1 n2 c2 n3 c3 : Nat) (w : World) (h : 1048576 < n0) : Calls Trym.prog 23 #[.slice a0 n0 c0, .slice a1 n1 c1, .slice a2 n2 c2, .slice a3 n3 c3] w (BoolPost w) := by
  go_enter Trym.func23, Trym.ntmps23
  go_wp2
  go_ret
  exact ⟨_, rfl, rfl⟩

set_option maxRecDepth 100000 in
set_option maxHeartbeats 16000000 in
/-- zzBytes_FnDiffRoundTrip. -/
theorem guard4_any (a0 a1 a2 a3 : Option Addr) (c0 c1 c2 c3 : Nat) (s0 s1 s2 s3 : List ByteArray) (w : World) (h0 : At w a0 s0) (h1 : At w a1 s1) (h2 : At w a2 s2) (h3 : At w a3 s3) :
    Calls Trym.prog 23 #[.slice a0 s0.length c0, .slice a1 s1.length c1, .slice a2 s2.length c2, .slice a3 s3.length c3] w (BoolPost w) := by
  by_cases hl : 1048576 < s0.length
  · exact guard4_long a0 a1 a2 a3 _ _ _ _ _ _ _ _ w hl
  have hl' : s0.length ≤ 1048576 := by omega
  have HA0 : Hid (At w a0 s0) := h0
  have HA1 : Hid (At w a1 s1) := h1
  have HA2 : Hid (At w a2 s2) := h2
  have HA3 : Hid (At w a3 s3) := h3
  clear h0 h1 h2 h3 hl
  go_enter Trym.func23, Trym.ntmps23
  go_wp2
  go_loop [9, 10] (fun c i => ∃ k T : Nat, k ≤ s0.length ∧ i = .int .i64 k ∧ T ≤ 1048576 ∧ c = .int .i64 T)
    (fun _ i => s0.length - (intOf i).toNat)
  case atStart => exact ⟨0, s0.length, Nat.zero_le _, rfl, hl', by simp⟩
  case round =>
    obtain ⟨k, T, hk, rfl, ht, rfl⟩ := hrel
    by_cases hlt : k < s0.length
    · obtain ⟨s, hs⟩ : ∃ s, s0[k]? = some s := ⟨_, List.getElem?_eq_getElem hlt⟩
      obtain ⟨b, off, rfl, hc⟩ := HA0.out k s hs
      clear hs
      by_cases h1 : 1048576 < s.size
      · go_wp2
        go_ret
        exact ⟨_, rfl, rfl⟩
      · have h1' : s.size ≤ 1048576 := by omega
        by_cases h2 : 1048576 < T + s.size
        · go_wp2
          go_ret
          exact ⟨_, rfl, rfl⟩
        · have h2' : T + s.size ≤ 1048576 := by omega
          clear h1 h2
          go_wp2
          go_round
          case rel => exact ⟨k + 1, T + s.size, by omega, by go_num, h2', by go_num⟩
          case measure => simp [intOf]; omega
    · by_cases h1 : 1048576 < s1.length
      · go_wp2
        go_ret
        exact ⟨_, rfl, rfl⟩
      · have h1' : s1.length ≤ 1048576 := by omega
        by_cases h2 : 1048576 < T + s1.length
        · go_wp2
          go_ret
          exact ⟨_, rfl, rfl⟩
        · have h2' : T + s1.length ≤ 1048576 := by omega
          clear h1 h2
          go_wp2
          go_loop [9, 11] (fun c i => ∃ k T : Nat, k ≤ s1.length ∧ i = .int .i64 k ∧ T ≤ 1048576 ∧ c = .int .i64 T)
            (fun _ i => s1.length - (intOf i).toNat)
          case atStart => exact ⟨0, T + s1.length, Nat.zero_le _, rfl, h2', by go_num⟩
          case round =>
            obtain ⟨k, T, hk, rfl, ht, rfl⟩ := hrel
            by_cases hlt : k < s1.length
            · obtain ⟨s, hs⟩ : ∃ s, s1[k]? = some s := ⟨_, List.getElem?_eq_getElem hlt⟩
              obtain ⟨b, off, rfl, hc⟩ := HA1.out k s hs
              clear hs
              by_cases h1 : 1048576 < s.size
              · go_wp2
                go_ret
                exact ⟨_, rfl, rfl⟩
              · have h1' : s.size ≤ 1048576 := by omega
                by_cases h2 : 1048576 < T + s.size
                · go_wp2
                  go_ret
                  exact ⟨_, rfl, rfl⟩
                · have h2' : T + s.size ≤ 1048576 := by omega
                  clear h1 h2
                  go_wp2
                  go_round
                  case rel => exact ⟨k + 1, T + s.size, by omega, by go_num, h2', by go_num⟩
                  case measure => simp [intOf]; omega
            · by_cases h1 : 1048576 < s2.length
              · go_wp2
                go_ret
                exact ⟨_, rfl, rfl⟩
              · have h1' : s2.length ≤ 1048576 := by omega
                by_cases h2 : 1048576 < T + s2.length
                · go_wp2
                  go_ret
                  exact ⟨_, rfl, rfl⟩
                · have h2' : T + s2.length ≤ 1048576 := by omega
                  clear h1 h2
                  go_wp2
                  go_loop [9, 12] (fun c i => ∃ k T : Nat, k ≤ s2.length ∧ i = .int .i64 k ∧ T ≤ 1048576 ∧ c = .int .i64 T)
                    (fun _ i => s2.length - (intOf i).toNat)
                  case atStart => exact ⟨0, T + s2.length, Nat.zero_le _, rfl, h2', by go_num⟩
                  case round =>
                    obtain ⟨k, T, hk, rfl, ht, rfl⟩ := hrel
                    by_cases hlt : k < s2.length
                    · obtain ⟨s, hs⟩ : ∃ s, s2[k]? = some s := ⟨_, List.getElem?_eq_getElem hlt⟩
                      obtain ⟨b, off, rfl, hc⟩ := HA2.out k s hs
                      clear hs
                      by_cases h1 : 1048576 < s.size
                      · go_wp2
                        go_ret
                        exact ⟨_, rfl, rfl⟩
                      · have h1' : s.size ≤ 1048576 := by omega
                        by_cases h2 : 1048576 < T + s.size
                        · go_wp2
                          go_ret
                          exact ⟨_, rfl, rfl⟩
                        · have h2' : T + s.size ≤ 1048576 := by omega
                          clear h1 h2
                          go_wp2
                          go_round
                          case rel => exact ⟨k + 1, T + s.size, by omega, by go_num, h2', by go_num⟩
                          case measure => simp [intOf]; omega
                    · by_cases h1 : 1048576 < s3.length
                      · go_wp2
                        go_ret
                        exact ⟨_, rfl, rfl⟩
                      · have h1' : s3.length ≤ 1048576 := by omega
                        by_cases h2 : 1048576 < T + s3.length
                        · go_wp2
                          go_ret
                          exact ⟨_, rfl, rfl⟩
                        · have h2' : T + s3.length ≤ 1048576 := by omega
                          clear h1 h2
                          go_wp2
                          go_loop [9, 13] (fun c i => ∃ k T : Nat, k ≤ s3.length ∧ i = .int .i64 k ∧ T ≤ 1048576 ∧ c = .int .i64 T)
                            (fun _ i => s3.length - (intOf i).toNat)
                          case atStart => exact ⟨0, T + s3.length, Nat.zero_le _, rfl, h2', by go_num⟩
                          case round =>
                            obtain ⟨k, T, hk, rfl, ht, rfl⟩ := hrel
                            by_cases hlt : k < s3.length
                            · obtain ⟨s, hs⟩ : ∃ s, s3[k]? = some s := ⟨_, List.getElem?_eq_getElem hlt⟩
                              obtain ⟨b, off, rfl, hc⟩ := HA3.out k s hs
                              clear hs
                              by_cases h1 : 1048576 < s.size
                              · go_wp2
                                go_ret
                                exact ⟨_, rfl, rfl⟩
                              · have h1' : s.size ≤ 1048576 := by omega
                                by_cases h2 : 1048576 < T + s.size
                                · go_wp2
                                  go_ret
                                  exact ⟨_, rfl, rfl⟩
                                · have h2' : T + s.size ≤ 1048576 := by omega
                                  clear h1 h2
                                  go_wp2
                                  go_round
                                  case rel => exact ⟨k + 1, T + s.size, by omega, by go_num, h2', by go_num⟩
                                  case measure => simp [intOf]; omega
                            · go_wp2
                              go_ret
                              exact ⟨_, rfl, rfl⟩
end Go.Proofs.Qxb6603070aMods.M
