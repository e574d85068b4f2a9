import Derived.Test.Qxb6000998aModsEOwn
namespace Go.Proofs.Qxb6000998aMods.E
open Go.RowKit Go.Proofs.Qxb6000998aMods.L

/-- How many owners there are in all. -/
def total (O : List (List Int)) : Nat := (O.map List.length).sum
theorem total_take_succ (O : List (List Int)) (k : Nat) (zs : List Int) (h : O[k]? = some zs) : total (O.take (k + 1)) = total (O.take k) + zs.length := by
  obtain ⟨hk, e⟩ := List.getElem?_eq_some_iff.1 h
  unfold total
  rw [List.take_succ_eq_append_getElem hk, e]
  simp
theorem total_all (O : List (List Int)) : total (O.take O.length) = total O := by rw [List.take_length]

/-- It answers a Bool; where it says false the input is small. -/
def BigPost (O : List (List Int)) (w : World) (e : Ending) (w' : World) : Prop := ∃ t, e = .returned (.bool t) ∧ w' = w ∧ (t = false → O.length ≤ 65536 ∧ total O ≤ 65536)
def BoolPost (w : World) (e : Ending) (w' : World) : Prop := ∃ t, e = .returned (.bool t) ∧ w' = w

theorem tooBig_empty (a : Option Addr) (cap : Nat) (w : World) : Calls Trym.prog 17 #[.slice a 0 cap] w fun e w' => e = .returned (.bool false) ∧ w' = w := by
  go_enter Trym.func17, Trym.ntmps17
  go_wp2
  refine wp_loop_rounds 1 ?_
  rw [rounds_succ]
  go_wp2
  go_ret
  exact ⟨rfl, rfl⟩
theorem tooBig_long (a : Option Addr) (n cap : Nat) (w : World) (h : 65536 < n) : Calls Trym.prog 17 #[.slice a n cap] w fun e w' => e = .returned (.bool true) ∧ w' = w := by
  go_enter Trym.func17, Trym.ntmps17
  go_wp2
  go_ret
  exact ⟨rfl, rfl⟩

set_option maxHeartbeats 1600000 in
theorem tooBig_any (b off cap : Nat) (O : List (List Int)) (vs : List Value) (w : World) (hO : O.length ≤ 65536)
    (hc : ∀ j, j < O.length → w.cell? ⟨b, off + j, none⟩ = some (vs.getD j undef)) (hin : ∀ j, j < O.length → InRow w (vs.getD j undef) (O.getD j [])) :
    Calls Trym.prog 17 #[.slice (some ⟨b, off, none⟩) O.length cap] w (BigPost O w) := by
  go_enter Trym.func17, Trym.ntmps17
  go_wp2
  go_loop [3, 4, 5] (fun c s i => ∃ k : Nat, k ≤ O.length ∧ i = .int .i64 k ∧ total (O.take k) ≤ 65536 ∧ c = .int .i64 (total (O.take k)) ∧ s = .int .i64 (24 * k + 2 * total (O.take k)))
    (fun _ _ i => O.length - (intOf i).toNat)
  case atStart => exact ⟨0, Nat.zero_le _, rfl, by simp [total], by simp [total], by simp [total]⟩
  case round =>
    obtain ⟨k, hk, rfl, ht, rfl, rfl⟩ := hrel
    by_cases hlt : k < O.length
    · have hcx := hc k hlt
      obtain ⟨a, c, hv, _⟩ := hin k hlt
      obtain ⟨zs, hz1⟩ : ∃ zs, zs = O.getD k [] := ⟨_, rfl⟩
      have hz2 : O[k]? = some zs := by rw [hz1]; simp [List.getD, hlt]
      have hts := total_take_succ O k zs hz2
      rw [hv, ← hz1] at hcx
      obtain ⟨n, hn⟩ : ∃ n, n = zs.length := ⟨_, rfl⟩
      obtain ⟨T, hT⟩ : ∃ T, T = total (O.take k) := ⟨_, rfl⟩
      rw [← hn] at hcx hts
      rw [← hT] at hts ht ⊢
      have HTS : Hid (total (O.take (k + 1)) = T + n) := hts
      clear hts hv hz1 hz2 hn hT hc hin
      by_cases h1 : 65536 < n
      · go_wp2
        go_ret
        exact ⟨_, rfl, rfl, fun h => by cases h⟩
      · have h1' : n ≤ 65536 := by omega
        by_cases h2 : 65536 < T + n
        · go_wp2
          go_ret
          exact ⟨_, rfl, rfl, fun h => by cases h⟩
        · have h2' : T + n ≤ 65536 := by omega
          by_cases h3 : 1048576 < 24 * k + 2 * T + (24 + 2 * n)
          · go_wp2
            go_ret
            exact ⟨_, rfl, rfl, fun h => by cases h⟩
          · have h3' : 24 * k + 2 * T + (24 + 2 * n) ≤ 1048576 := by omega
            clear h1 h2 h3
            go_wp2
            go_round
            case rel => exact ⟨k + 1, by omega, by go_num, by rw [HTS.out]; omega, by rw [HTS.out]; go_num, by rw [HTS.out]; go_num⟩
            case measure => simp [intOf]; omega
    · go_wp2
      go_ret
      obtain rfl : k = O.length := by omega
      rw [total_all] at ht
      exact ⟨_, rfl, rfl, fun _ => ⟨hO, ht⟩⟩

theorem tooBig_in {w w1 : World} {a0 : Option Addr} {len cap : Nat} {O : List (List Int)} (h : InRows w a0 len cap O) (hw : w1 = w) :
    Calls Trym.prog 17 #[.slice a0 len cap] w1 (BigPost O w1) := by
  subst hw
  obtain ⟨rfl, h⟩ := h
  by_cases hl : 65536 < O.length
  · refine (tooBig_long a0 O.length cap w1 hl).mono ?_
    rintro e w' ⟨rfl, rfl⟩
    exact ⟨_, rfl, rfl, fun h => by cases h⟩
  · by_cases h0 : O.length = 0
    · rw [h0]
      refine (tooBig_empty a0 cap w1).mono ?_
      rintro e w' ⟨rfl, rfl⟩
      have : O = [] := List.eq_nil_of_length_eq_zero h0
      subst this
      exact ⟨_, rfl, rfl, fun _ => by simp [total]⟩
    · rcases h with ⟨_, h1, _⟩ | ⟨x, vs, rfl, hc, hin⟩
      · omega
      · have hc1 := hc 0 (by omega)
        obtain ⟨b, off, spot⟩ := x
        have hspot : spot = none := by simpa [Addr.add] using World.cell?_spot hc1
        subst hspot
        refine tooBig_any b off cap O vs w1 (by omega) ?_ hin
        intro j hj
        have := hc j hj
        rwa [Addr.add_lit] at this

theorem zzb_empty (a : Option Addr) (cap : Nat) (w : World) : Calls Trym.prog 16 #[.slice a 0 cap] w fun e w' => e = .returned (.bool true) ∧ w' = w := by
  go_enter Trym.func16, Trym.ntmps16
  go_wp2
  refine wp_loop_rounds 1 ?_
  rw [rounds_succ]
  go_wp2
  go_ret
  exact ⟨rfl, rfl⟩
theorem zzb_long (a : Option Addr) (n cap : Nat) (w : World) (h : 1048576 < n) : Calls Trym.prog 16 #[.slice a n cap] w fun e w' => e = .returned (.bool false) ∧ w' = w := by
  go_enter Trym.func16, Trym.ntmps16
  go_wp2
  go_ret
  exact ⟨rfl, rfl⟩

set_option maxHeartbeats 1600000 in
theorem zzb_any (b off cap : Nat) (O : List (List Int)) (vs : List Value) (w : World) (hO : O.length ≤ 1048576)
    (hc : ∀ j, j < O.length → w.cell? ⟨b, off + j, none⟩ = some (vs.getD j undef)) (hin : ∀ j, j < O.length → InRow w (vs.getD j undef) (O.getD j [])) :
    Calls Trym.prog 16 #[.slice (some ⟨b, off, none⟩) O.length cap] w (BoolPost w) := by
  go_enter Trym.func16, Trym.ntmps16
  go_wp2
  go_loop [3, 4] (fun c i => ∃ k T : Nat, k ≤ O.length ∧ i = .int .i64 k ∧ T ≤ 1048576 ∧ c = .int .i64 T)
    (fun _ i => O.length - (intOf i).toNat)
  case atStart => exact ⟨0, O.length, Nat.zero_le _, rfl, hO, by simp⟩
  case round =>
    obtain ⟨k, T, hk, rfl, ht, rfl⟩ := hrel
    by_cases hlt : k < O.length
    · have hcx := hc k hlt
      obtain ⟨a, c, hv, _⟩ := hin k hlt
      rw [hv] at hcx
      obtain ⟨n, hn⟩ : ∃ n, n = (O.getD k []).length := ⟨_, rfl⟩
      rw [← hn] at hcx
      clear hv hn hc hin
      by_cases h1 : 1048576 < n
      · go_wp2
        go_ret
        exact ⟨_, rfl, rfl⟩
      · have h1' : n ≤ 1048576 := by omega
        by_cases h2 : 1048576 < T + n
        · go_wp2
          go_ret
          exact ⟨_, rfl, rfl⟩
        · have h2' : T + n ≤ 1048576 := by omega
          clear h1 h2
          go_wp2
          go_round
          case rel => exact ⟨k + 1, T + n, by omega, by go_num, h2', by go_num⟩
          case measure => simp [intOf]; omega
    · go_wp2
      go_ret
      exact ⟨_, rfl, rfl⟩

theorem zzb_in {w w1 : World} {a0 : Option Addr} {len cap : Nat} {O : List (List Int)} (h : InRows w a0 len cap O) (hw : w1 = w) :
    Calls Trym.prog 16 #[.slice a0 len cap] w1 (BoolPost w1) := by
  subst hw
  obtain ⟨rfl, h⟩ := h
  by_cases hl : 1048576 < O.length
  · refine (zzb_long a0 O.length cap w1 hl).mono ?_
    rintro e w' ⟨rfl, rfl⟩
    exact ⟨_, rfl, rfl⟩
  · by_cases h0 : O.length = 0
    · rw [h0]
      refine (zzb_empty a0 cap w1).mono ?_
      rintro e w' ⟨rfl, rfl⟩
      exact ⟨_, rfl, rfl⟩
    · rcases h with ⟨_, h1, _⟩ | ⟨x, vs, rfl, hc, hin⟩
      · omega
      · have hc1 := hc 0 (by omega)
        obtain ⟨b, off, spot⟩ := x
        have hspot : spot = none := by simpa [Addr.add] using World.cell?_spot hc1
        subst hspot
        refine zzb_any b off cap O vs w1 (by omega) ?_ hin
        intro j hj
        have := hc j hj
        rwa [Addr.add_lit] at this
end Go.Proofs.Qxb6000998aMods.E
