import Derived.Test.Qxb6600849aModsEscWalks
import Derived.Test.Qxb6600849aModsPlain
namespace Go.Proofs.Qxb6600849aMods.Esc
open Go.RowKit Go.Proofs.Qxb6600849aMods.Plain

theorem Trym.info5 : (Trym.prog.info? 5).map (fun i => (i.zero, i.size, i.bytes)) = some (some (.int .u8 0), 1, 1) := by kernel_rfl
theorem Trym.cells5 : Trym.prog.cellsOf 5 = 1 := by kernel_rfl

theorem clone_nil (w : World) :
    Calls Trym.prog 8 #[.slice none 0 0] w fun e w' => e = .returned (.slice none 0 0) ∧ w' = w := by
  have hnil := fun (w : World) => Lib.run_eql_slice_nil (P := Trym.prog) w 22 5 none 0 0 0 0 Trym.underlying22
  go_enter Trym.func8, Trym.ntmps8
  go_wp2
  go_ret
  exact ⟨rfl, rfl⟩

set_option maxHeartbeats 800000 in
theorem clone_any (b off len cap : Nat) (xs : List Value) (w : World) (hlen : len ≤ 1048576) (hz : len ≤ xs.length) (hbw : b < w.heap.size)
    (hc : ∀ j, j < len → ∃ n, xs[j]? = some (.int .u8 n) ∧ w.cell? ⟨b, off + j, none⟩ = some (.int .u8 n)) :
    Calls Trym.prog 8 #[.slice (some ⟨b, off, none⟩) len cap] w fun e w' =>
      e = .returned (.slice (some ⟨w.heap.size, 0, none⟩) len len) ∧ w'.ownsRow w.heap.size 5 1 (.slice (some ⟨w.heap.size, 0, none⟩) len len) len (xs.take len) ∧ Below w.heap.size w w' := by
  obtain ⟨i0, hi, hz0, hz1, hz2⟩ := info_parts Trym.info5
  have hnil := fun (w : World) => Lib.run_eql_slice_nil (P := Trym.prog) w 22 5 (some ⟨b, off, none⟩) len cap 0 0 Trym.underlying22
  go_enter Trym.func8, Trym.ntmps8
  go_wp2_with (first | (at_make; refine wpList_make_full _ rfl _ _ 22 rfl w.heap.size 5 i0 (.int .u8 0) 1 Trym.underlying22 hi hz0 hz1 _ _ _ _ len rfl rfl rfl rfl (by rw [hz2]; omega) (by unfold maxLen; omega) (Nat.le_refl _) ?_) | fail)
  intro w1 hown1 hgrow1
  have e0 := partC_zero (.int .u8 0) xs len rfl
  simp only [Value.cells] at e0
  rw [e0] at hown1
  clear e0
  go_wp2
  go_loopw [4] (fun i wr => ∃ k : Nat, k ≤ len ∧ i = .int .i64 k ∧ wr.ownsRow w.heap.size 5 1 (.slice (some ⟨w.heap.size, 0, none⟩) len len) len (partC (.int .u8 0) xs len k) ∧ Below w.heap.size w wr)
    (fun i _ => len - (intOf i).toNat)
  case atStart => exact ⟨0, Nat.zero_le _, rfl, hown1, (Below.refl _ _).grown hgrow1 (Nat.le_refl _) (fun k h => by cases h)⟩
  case round =>
    obtain ⟨k, hk, rfl, hown, hbel⟩ := hrel
    by_cases hlt : k < len
    · obtain ⟨n, hn1, hn2⟩ := hc k hlt
      have hcx : wr.cell? ⟨b, off + k, none⟩ = some (.int .u8 n) := (hbel.cell (by exact hbw)).trans hn2
      have hcy : wr.cell? ⟨w.heap.size, k, none⟩ = (partC (.int .u8 0) xs len k)[k]? := hown.cellAt k (by omega)
      have hlp : k < (partC (.int .u8 0) xs len k).length := by rw [partC_length _ _ _ _ hk hz]; exact hlt
      rw [List.getElem?_eq_getElem hlp] at hcy
      have hfy : wr.frozen? ⟨w.heap.size, k, none⟩ = false := hown.frozenAt k
      obtain ⟨hs1, hs2⟩ := hown.stored k (.int .u8 n)
      rw [partC_step _ xs len k hlt hz _ hn1] at hs1
      have HS1 := hs1
      clear hown hs1 hn1 hn2
      go_wp2
      go_roundw
      case rel => exact ⟨k + 1, by omega, by go_num, by simpa using HS1, hbel.setCell (Nat.le_refl _) _⟩
      case measure => simp [intOf]; omega
    · go_wp2
      go_ret
      obtain rfl : k = len := by omega
      rw [partC_all] at hown
      exact ⟨rfl, hown, hbel⟩

set_option maxHeartbeats 800000 in
theorem clone_empty (x : Addr) (cap : Nat) (w : World) :
    Calls Trym.prog 8 #[.slice (some x) 0 cap] w fun e w' =>
      e = .returned (.slice (some ⟨w.heap.size, 0, none⟩) 0 0) ∧ w'.ownsRow w.heap.size 5 1 (.slice (some ⟨w.heap.size, 0, none⟩) 0 0) 0 [] ∧ Below w.heap.size w w' := by
  obtain ⟨i0, hi, hz0, hz1, hz2⟩ := info_parts Trym.info5
  have hnil := fun (w : World) => Lib.run_eql_slice_nil (P := Trym.prog) w 22 5 (some x) 0 cap 0 0 Trym.underlying22
  go_enter Trym.func8, Trym.ntmps8
  go_wp2_with (first | (at_make; refine wpList_make_full _ rfl _ _ 22 rfl w.heap.size 5 i0 (.int .u8 0) 1 Trym.underlying22 hi hz0 hz1 _ _ _ _ 0 rfl rfl rfl rfl (by omega) (by unfold maxLen; omega) (Nat.le_refl _) ?_) | fail)
  intro w1 hown1 hgrow1
  go_wp2
  refine wp_loop_rounds 1 ?_
  rw [rounds_succ]
  go_wp2
  go_ret
  have e0 : (madeCells #[Value.int .u8 0] 0).toList = [] := by simp [madeCells]
  rw [e0] at hown1
  exact ⟨rfl, hown1, (Below.refl _ _).grown hgrow1 (Nat.le_refl _) (fun k h => by cases h)⟩
end Go.Proofs.Qxb6600849aMods.Esc
