import Derived.Test.Qxb6000998aModsEGuard
namespace Go.Proofs.Qxb6000998aMods.E
open Go.RowKit Go.Proofs.Qxb6000998aMods.L

/-- The rows that came in, told by their lengths alone. -/
def Lens (w : World) (a0 : Option Addr) (O : List (List Int)) : Prop :=
  ∀ j zs, O[j]? = some zs → ∃ b off, a0 = some ⟨b, off, none⟩ ∧ ∃ u c, w.cell? ⟨b, off + j, none⟩ = some (.slice u zs.length c)
theorem InRows.lens {w : World} {a0 : Option Addr} {len cap : Nat} {O : List (List Int)} (h : InRows w a0 len cap O) : len = O.length ∧ Lens w a0 O := by
  obtain ⟨rfl, h⟩ := h
  refine ⟨rfl, ?_⟩
  intro j zs hz
  have hj := (List.getElem?_eq_some_iff.1 hz).1
  rcases h with ⟨_, h0, _⟩ | ⟨x, vs, rfl, hc, hin⟩
  · omega
  · have hc1 := hc j hj
    obtain ⟨b, off, spot⟩ := x
    have hspot : spot = none := by simpa [Addr.add] using World.cell?_spot (hc 0 (by omega))
    subst hspot
    obtain ⟨a, c, hv, _⟩ := hin j hj
    have ez : O.getD j [] = zs := by simp [List.getD, hz]
    rw [ez] at hv
    rw [hv, Addr.add_lit] at hc1
    exact ⟨b, off, rfl, a, c, hc1⟩

theorem zzb2_long (a : Option Addr) (n cap : Nat) (ve : Value) (w : World) (h : 1048576 < n) : Calls Trym.prog 24 #[.slice a n cap, ve] w fun e w' => e = .returned (.bool false) ∧ w' = w := by
  go_enter Trym.func24, Trym.ntmps24
  go_wp2
  go_ret
  exact ⟨rfl, rfl⟩

set_option maxHeartbeats 1600000 in
theorem zzb2_any (a0 ae : Option Addr) (cap m ce : Nat) (O : List (List Int)) (w : World) (hO : O.length ≤ 1048576) (hc : Lens w a0 O) :
    Calls Trym.prog 24 #[.slice a0 O.length cap, .slice ae m ce] w (BoolPost w) := by
  have HC : Hid (Lens w a0 O) := hc
  clear hc
  go_enter Trym.func24, Trym.ntmps24
  go_wp2
  go_loop [5, 6] (fun c i => ∃ k T : Nat, k ≤ O.length ∧ i = .int .i64 k ∧ T ≤ 1048576 ∧ c = .int .i64 T)
    (fun _ i => O.length - (intOf i).toNat)
  case atStart => exact ⟨0, O.length, Nat.zero_le _, rfl, hO, by simp⟩
  case round =>
    obtain ⟨k, T, hk, rfl, ht, rfl⟩ := hrel
    by_cases hlt : k < O.length
    · obtain ⟨b, off, rfl, u, c, hcx⟩ := HC.out k _ (List.getElem?_eq_getElem hlt)
      obtain ⟨n, hn⟩ : ∃ n, n = (O[k]).length := ⟨_, rfl⟩
      rw [← hn] at hcx
      clear hn
      by_cases h1 : 1048576 < n
      · go_wp2
        go_ret
        exact ⟨_, rfl, rfl⟩
      · have h1' : n ≤ 1048576 := by omega
        by_cases h2 : 1048576 < T + n
        · go_wp2
          go_ret
          exact ⟨_, rfl, rfl⟩
        · have h2' : T + n ≤ 1048576 := by omega
          clear h1 h2
          go_wp2
          go_round
          case rel => exact ⟨k + 1, T + n, by omega, by go_num, h2', by go_num⟩
          case measure => simp [intOf]; omega
    · by_cases h1 : 1048576 < m
      · go_wp2
        go_ret
        exact ⟨_, rfl, rfl⟩
      · have h1' : m ≤ 1048576 := by omega
        by_cases h2 : 1048576 < T + m
        · go_wp2
          go_ret
          exact ⟨_, rfl, rfl⟩
        · have h2' : T + m ≤ 1048576 := by omega
          clear h1 h2
          go_wp2
          go_ret
          exact ⟨_, rfl, rfl⟩

theorem zzb2_in {w w1 : World} {a0 ae : Option Addr} {len cap m ce : Nat} {O : List (List Int)} (h : InRows w a0 len cap O) (hw : w1 = w) :
    Calls Trym.prog 24 #[.slice a0 len cap, .slice ae m ce] w1 (BoolPost w1) := by
  subst hw
  obtain ⟨rfl, hl⟩ := h.lens
  by_cases h1 : 1048576 < O.length
  · refine (zzb2_long a0 O.length cap _ w1 h1).mono ?_
    rintro e w' ⟨rfl, rfl⟩
    exact ⟨_, rfl, rfl⟩
  · exact zzb2_any a0 ae cap m ce O w1 (by omega) hl

def BigPost2 (O : List (List Int)) (m : Nat) (w : World) (e : Ending) (w' : World) : Prop := ∃ t, e = .returned (.bool t) ∧ w' = w ∧ (t = false → O.length < 65536 ∧ total O + m ≤ 65536)

theorem big2_long (a ae : Option Addr) (n cap m ce : Nat) (w : World) (h : 65536 ≤ n) : Calls Trym.prog 25 #[.slice a n cap, .slice ae m ce] w fun e w' => e = .returned (.bool true) ∧ w' = w := by
  have hd : decide ((65536 : Int) ≤ (n : Int)) = true := by simp; omega
  clear h
  go_enter Trym.func25, Trym.ntmps25
  go_wp2
  go_ret
  exact ⟨rfl, rfl⟩
theorem big2_wide (a ae : Option Addr) (n cap m ce : Nat) (w : World) (h : n < 65536) (hm : 65536 < m) : Calls Trym.prog 25 #[.slice a n cap, .slice ae m ce] w fun e w' => e = .returned (.bool true) ∧ w' = w := by
  have hd : decide ((65536 : Int) ≤ (n : Int)) = false := by simp; omega
  clear h
  go_enter Trym.func25, Trym.ntmps25
  go_wp2
  go_ret
  exact ⟨rfl, rfl⟩

set_option maxHeartbeats 1600000 in
theorem big2_any (a0 ae : Option Addr) (cap m ce : Nat) (O : List (List Int)) (w : World) (hO : O.length < 65536) (hm : m ≤ 65536) (hc : Lens w a0 O) :
    Calls Trym.prog 25 #[.slice a0 O.length cap, .slice ae m ce] w (BigPost2 O m w) := by
  have HC : Hid (Lens w a0 O) := hc
  have hd : decide ((65536 : Int) ≤ (O.length : Int)) = false := by simp; omega
  have HO : Hid (O.length < 65536) := hO
  have hO2 : O.length ≤ 65536 := by omega
  clear hc hO
  go_enter Trym.func25, Trym.ntmps25
  go_wp2
  go_loop [5, 6, 7] (fun c s i => ∃ k : Nat, k ≤ O.length ∧ i = .int .i64 k ∧ total (O.take k) + m ≤ 65536 ∧ c = .int .i64 (total (O.take k) + m) ∧ s = .int .i64 (24 * k + 2 * total (O.take k) + 2 * m + 24))
    (fun _ _ i => O.length - (intOf i).toNat)
  case atStart => exact ⟨0, Nat.zero_le _, rfl, by simp [total]; omega, by simp [total], by simp [total]; omega⟩
  case round =>
    obtain ⟨k, hk, rfl, ht, rfl, rfl⟩ := hrel
    by_cases hlt : k < O.length
    · obtain ⟨zs, hz2⟩ : ∃ zs, O[k]? = some zs := ⟨_, List.getElem?_eq_getElem hlt⟩
      obtain ⟨b, off, rfl, u, c, hcx⟩ := HC.out k _ hz2
      have hts := total_take_succ O k zs hz2
      obtain ⟨n, hn⟩ : ∃ n, n = zs.length := ⟨_, rfl⟩
      obtain ⟨T, hT⟩ : ∃ T, T = total (O.take k) := ⟨_, rfl⟩
      rw [← hn] at hcx hts
      rw [← hT] at hts ht ⊢
      have HTS : Hid (total (O.take (k + 1)) = T + n) := hts
      clear hts hz2 hn hT
      by_cases h1 : 65536 < n
      · go_wp2
        go_ret
        exact ⟨_, rfl, rfl, fun h => by cases h⟩
      · have h1' : n ≤ 65536 := by omega
        by_cases h2 : 65536 < T + m + n
        · go_wp2
          go_ret
          exact ⟨_, rfl, rfl, fun h => by cases h⟩
        · have h2' : T + m + n ≤ 65536 := by omega
          by_cases h3 : 1048576 < 24 * k + 2 * T + 2 * m + 24 + (24 + 2 * n)
          · go_wp2
            go_ret
            exact ⟨_, rfl, rfl, fun h => by cases h⟩
          · have h3' : 24 * k + 2 * T + 2 * m + 24 + (24 + 2 * n) ≤ 1048576 := by omega
            clear h1 h2 h3
            go_wp2
            go_round
            case rel => exact ⟨k + 1, by omega, by go_num, by rw [HTS.out]; omega, by rw [HTS.out]; go_num, by rw [HTS.out]; go_num⟩
            case measure => simp [intOf]; omega
    · go_wp2
      go_ret
      obtain rfl : k = O.length := by omega
      rw [total_all] at ht
      exact ⟨_, rfl, rfl, fun _ => ⟨HO.out, ht⟩⟩

theorem big2_in {w w1 : World} {a0 ae : Option Addr} {len cap m ce : Nat} {O : List (List Int)} (h : InRows w a0 len cap O) (hw : w1 = w) :
    Calls Trym.prog 25 #[.slice a0 len cap, .slice ae m ce] w1 (BigPost2 O m w1) := by
  subst hw
  obtain ⟨rfl, hl⟩ := h.lens
  by_cases h1 : 65536 ≤ O.length
  · refine (big2_long a0 ae O.length cap m ce w1 h1).mono ?_
    rintro e w' ⟨rfl, rfl⟩
    exact ⟨_, rfl, rfl, fun h => by cases h⟩
  · by_cases h2 : 65536 < m
    · refine (big2_wide a0 ae O.length cap m ce w1 (by omega) h2).mono ?_
      rintro e w' ⟨rfl, rfl⟩
      exact ⟨_, rfl, rfl, fun h => by cases h⟩
    · exact big2_any a0 ae cap m ce O w1 (by omega) (by omega) hl
end Go.Proofs.Qxb6000998aMods.E
