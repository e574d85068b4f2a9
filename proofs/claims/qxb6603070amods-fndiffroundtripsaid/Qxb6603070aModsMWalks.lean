import Derived.Test.Qxb6603070aModsRows
import Derived.Test.Qxb6603070aModsMOrd
import Derived.OpenShut
import Derived.WalkSpells
import Derived.WalkLawsBesides
import Derived.Deep.QuietTactic
import Derived.Maps.RangeWalk
namespace Go.Proofs.Qxb6603070aMods.M
open Go.RowKit Go.Proofs.Qxb6603070aMods.L

theorem Trym.info9 : (Trym.prog.info? 9).map (fun i => (i.zero, i.size, i.bytes)) = some (some (.string ByteArray.empty), 1, 16) := by kernel_rfl
theorem Trym.size9 : (Trym.prog.info? 9).map (·.size) = some 1 := by kernel_rfl
theorem Trym.info43 : (Trym.prog.info? 43).map (fun i => (i.zero, i.size, i.bytes)) = some (some (.agg #[.string ByteArray.empty, .string ByteArray.empty]), 2, 32) := by kernel_rfl
theorem Trym.size43 : (Trym.prog.info? 43).map (·.size) = some 2 := by kernel_rfl
theorem Trym.info49 : (Trym.prog.info? 49).map (fun i => (i.zero, i.size, i.bytes)) = some (some (.agg #[.string ByteArray.empty, .string ByteArray.empty]), 2, 32) := by kernel_rfl
theorem Trym.size49 : (Trym.prog.info? 49).map (·.size) = some 2 := by kernel_rfl

/-- A row of strings that came in. -/
def At (w : World) (a : Option Addr) (ss : List ByteArray) : Prop := ∀ j s, ss[j]? = some s → ∃ b off, a = some ⟨b, off, none⟩ ∧ w.cell? ⟨b, off + j, none⟩ = some (.string s)
theorem At.below {w w' : World} {a : Option Addr} {ss : List ByteArray} (h : At w a ss) (hb : Below w.heap.size w w') : At w' a ss := by
  intro j s hs
  obtain ⟨b, off, ha, hc⟩ := h j s hs
  exact ⟨b, off, ha, (hb.cell (World.block_lt_of_cell? w _ hc)).trans hc⟩

def BoolPost (w : World) (e : Ending) (w' : World) : Prop := ∃ t, e = .returned (.bool t) ∧ w' = w

set_option maxHeartbeats 1600000 in
/-- zzAddBytes. -/
theorem addBytes_any (acc : Nat) (a : Option Addr) (cap : Nat) (ss : List ByteArray) (w : World) (hA : At w a ss) (hacc : acc ≤ 1048577) :
    Calls Trym.prog 9 #[.int .i64 acc, .slice a ss.length cap] w fun e w' => ∃ r : Nat, e = .returned (.int .i64 r) ∧ w' = w ∧ r ≤ 1048577 ∧ (r ≤ 1048576 → ss.length ≤ 65536) := by
  have HA : Hid (At w a ss) := hA
  clear hA
  by_cases h0 : 1048576 < acc
  · go_enter Trym.func9, Trym.ntmps9
    go_wp2
    go_ret
    exact ⟨1048577, rfl, rfl, Nat.le_refl _, by omega⟩
  · by_cases h1 : 1048576 < ss.length
    · go_enter Trym.func9, Trym.ntmps9
      go_wp2
      go_ret
      exact ⟨1048577, rfl, rfl, Nat.le_refl _, by omega⟩
    · have h0' : acc ≤ 1048576 := by omega
      have h1' : ss.length ≤ 1048576 := by omega
      clear h0 h1 hacc
      go_enter Trym.func9, Trym.ntmps9
      go_wp2
      go_loop [0, 5] (fun c i => ∃ k T : Nat, k ≤ ss.length ∧ i = .int .i64 k ∧ c = .int .i64 T ∧ 16 * ss.length ≤ T ∧ ((k = 0 ∧ T = acc + 16 * ss.length) ∨ T ≤ 1048576) ∧ T ≤ 17825792)
        (fun _ i => ss.length - (intOf i).toNat)
      case atStart => exact ⟨0, acc + 16 * ss.length, Nat.zero_le _, rfl, by go_num, by omega, .inl ⟨rfl, rfl⟩, by omega⟩
      case round =>
        obtain ⟨k, T, hk, rfl, rfl, hT1, hT2, hT3⟩ := hrel
        by_cases hlt : k < ss.length
        · obtain ⟨s, hs⟩ : ∃ s, ss[k]? = some s := ⟨_, List.getElem?_eq_getElem hlt⟩
          obtain ⟨b, off, rfl, hc⟩ := HA.out k s hs
          clear hs
          by_cases hT : 1048576 < T
          · go_wp2
            go_ret
            exact ⟨1048577, rfl, rfl, Nat.le_refl _, by omega⟩
          · have hT' : T ≤ 1048576 := by omega
            clear hT hT2 hT3
            by_cases hsz : 1048576 - (T : Int) < (s.size : Int)
            · go_wp2
              go_ret
              exact ⟨1048577, rfl, rfl, Nat.le_refl _, by omega⟩
            · have hsz' : s.size + T ≤ 1048576 := by omega
              go_wp2
              go_round
              case rel => exact ⟨k + 1, T + s.size, by omega, by go_num, by go_num, by omega, .inr (by omega), by omega⟩
              case measure => simp [intOf]; omega
        · go_wp2
          go_ret
          by_cases hT : T ≤ 1048577
          · exact ⟨T, rfl, rfl, hT, fun h => by omega⟩
          · exfalso
            obtain rfl : k = ss.length := by omega
            rcases hT2 with h | h
            · omega
            · omega

/-- The second half of the guard's walk: a row's lengths are added up. -/
theorem guard_long (a a' : Option Addr) (n cap n' cap' : Nat) (w : World) (h : 1048576 < n) : Calls Trym.prog 27 #[.slice a n cap, .slice a' n' cap'] w (BoolPost w) := by
  go_enter Trym.func27, Trym.ntmps27
  go_wp2
  go_ret
  exact ⟨_, rfl, rfl⟩

set_option maxHeartbeats 3200000 in
/-- zzBytes_FnParamsOfExact. -/
theorem guard_any (a a' : Option Addr) (cap cap' : Nat) (ss ts : List ByteArray) (w : World) (hA : At w a ss) (hA' : At w a' ts) :
    Calls Trym.prog 27 #[.slice a ss.length cap, .slice a' ts.length cap'] w (BoolPost w) := by
  by_cases hl : 1048576 < ss.length
  · exact guard_long a a' _ _ _ _ w hl
  have hl' : ss.length ≤ 1048576 := by omega
  have HA : Hid (At w a ss) := hA
  have HA' : Hid (At w a' ts) := hA'
  clear hA hA' hl
  go_enter Trym.func27, Trym.ntmps27
  go_wp2
  go_loop [5, 6] (fun c i => ∃ k T : Nat, k ≤ ss.length ∧ i = .int .i64 k ∧ T ≤ 1048576 ∧ c = .int .i64 T)
    (fun _ i => ss.length - (intOf i).toNat)
  case atStart => exact ⟨0, ss.length, Nat.zero_le _, rfl, hl', by simp⟩
  case round =>
    obtain ⟨k, T, hk, rfl, ht, rfl⟩ := hrel
    by_cases hlt : k < ss.length
    · obtain ⟨s, hs⟩ : ∃ s, ss[k]? = some s := ⟨_, List.getElem?_eq_getElem hlt⟩
      obtain ⟨b, off, rfl, hc⟩ := HA.out k s hs
      obtain ⟨n, hn⟩ : ∃ n, n = s.size := ⟨_, rfl⟩
      clear hs
      by_cases h1 : 1048576 < s.size
      · go_wp2
        go_ret
        exact ⟨_, rfl, rfl⟩
      · have h1' : s.size ≤ 1048576 := by omega
        by_cases h2 : 1048576 < T + s.size
        · go_wp2
          go_ret
          exact ⟨_, rfl, rfl⟩
        · have h2' : T + s.size ≤ 1048576 := by omega
          clear h1 h2
          go_wp2
          go_round
          case rel => exact ⟨k + 1, T + s.size, by omega, by go_num, h2', by go_num⟩
          case measure => simp [intOf]; omega
    · by_cases h1 : 1048576 < ts.length
      · go_wp2
        go_ret
        exact ⟨_, rfl, rfl⟩
      · have h1' : ts.length ≤ 1048576 := by omega
        by_cases h2 : 1048576 < T + ts.length
        · go_wp2
          go_ret
          exact ⟨_, rfl, rfl⟩
        · have h2' : T + ts.length ≤ 1048576 := by omega
          clear h1 h2
          go_wp2
          go_loop [5, 7] (fun c i => ∃ k T : Nat, k ≤ ts.length ∧ i = .int .i64 k ∧ T ≤ 1048576 ∧ c = .int .i64 T)
            (fun _ i => ts.length - (intOf i).toNat)
          case atStart => exact ⟨0, T + ts.length, Nat.zero_le _, rfl, h2', by go_num⟩
          case round =>
            obtain ⟨k, T, hk, rfl, ht, rfl⟩ := hrel
            by_cases hlt : k < ts.length
            · obtain ⟨s, hs⟩ : ∃ s, ts[k]? = some s := ⟨_, List.getElem?_eq_getElem hlt⟩
              obtain ⟨b, off, rfl, hc⟩ := HA'.out k s hs
              clear hs
              by_cases h1 : 1048576 < s.size
              · go_wp2
                go_ret
                exact ⟨_, rfl, rfl⟩
              · have h1' : s.size ≤ 1048576 := by omega
                by_cases h2 : 1048576 < T + s.size
                · go_wp2
                  go_ret
                  exact ⟨_, rfl, rfl⟩
                · have h2' : T + s.size ≤ 1048576 := by omega
                  clear h1 h2
                  go_wp2
                  go_round
                  case rel => exact ⟨k + 1, T + s.size, by omega, by go_num, h2', by go_num⟩
                  case measure => simp [intOf]; omega
            · go_wp2
              go_ret
              exact ⟨_, rfl, rfl⟩

/-- A row of strings of the call's own: nil, or a block. -/
def Strs (w : World) (a : Option Addr) (ss : List ByteArray) : Prop := (a = none ∧ ss = []) ∨ ∃ g, a = some ⟨g, 0, none⟩ ∧ Blk w g (ss.map Value.string) 9
theorem Strs.all {w w' : World} {a : Option Addr} {ss : List ByteArray} (h : Strs w a ss) (b : Below w.heap.size w w') : Strs w' a ss := by
  rcases h with h | ⟨g, ha, hg⟩
  · exact .inl h
  · exact .inr ⟨g, ha, hg.all b⟩
theorem Strs.at {w : World} {a : Option Addr} {ss : List ByteArray} (h : Strs w a ss) {j : Nat} {s : ByteArray} (hs : ss[j]? = some s) : ∃ g, a = some ⟨g, 0, none⟩ ∧ w.cell? ⟨g, j, none⟩ = some (.string s) := by
  rcases h with ⟨_, rfl⟩ | ⟨g, ha, hg⟩
  · simp at hs
  · exact ⟨g, ha, by rw [hg.cell, List.getElem?_map, hs]; rfl⟩
def partS (ss : List ByteArray) (k : Nat) : List Value := (ss.take k).map Value.string ++ List.replicate (ss.length - k) (Value.string ByteArray.empty)
theorem partS_length (ss : List ByteArray) (k : Nat) (hk : k ≤ ss.length) : (partS ss k).length = ss.length := by simp [partS]; omega
theorem take_snoc {α : Type} (zs : List α) (k : Nat) (x : α) (h : zs[k]? = some x) : zs.take (k + 1) = zs.take k ++ [x] := by
  obtain ⟨h1, h2⟩ := List.getElem?_eq_some_iff.1 h
  rw [List.take_succ_eq_append_getElem h1, h2]
theorem partS_step (ss : List ByteArray) (k : Nat) (x : ByteArray) (h : ss[k]? = some x) : (partS ss k).set k (.string x) = partS ss (k + 1) := by
  obtain ⟨h1, h2⟩ := List.getElem?_eq_some_iff.1 h
  unfold partS
  rw [take_snoc ss k x h, show ss.length - k = (ss.length - (k + 1)) + 1 from by omega, List.replicate_succ, List.set_append, if_neg (by simp; omega)]
  have e : k - ((ss.take k).map Value.string).length = 0 := by simp; omega
  rw [e, List.set_cons_zero]
  simp
theorem partS_all (ss : List ByteArray) : partS ss ss.length = ss.map Value.string := by simp [partS]
theorem partS_zero (ss : List ByteArray) : partS ss 0 = List.replicate ss.length (Value.string ByteArray.empty) := by simp [partS]
theorem flat_one_cells (n : Nat) (v : Value) : (List.replicate n [v]).flatten = List.replicate n v := by
  induction n with
  | zero => rfl
  | succ n ih => rw [List.replicate_succ, List.flatten_cons, ih, List.replicate_succ]; rfl

set_option maxHeartbeats 1600000 in
/-- zzCloneStrings. -/
theorem clone_any (a : Option Addr) (cap : Nat) (ss : List ByteArray) (w : World) (hl : ss.length ≤ 65536) (hA : At w a ss) (hnil0 : a = none → ss = [] ∧ cap = 0) :
    Calls Trym.prog 10 #[.slice a ss.length cap] w fun e w' => ∃ a', e = .returned (.slice a' ss.length ss.length) ∧ Strs w' a' ss ∧ Below w.heap.size w w' := by
  have hn2 := fun (w : World) => Lib.run_eql_slice_nil (P := Trym.prog) w 22 9 a ss.length cap 0 0 Trym.underlying22
  have HA : Hid (At w a ss) := hA
  clear hA
  cases a with
  | none =>
    obtain ⟨rfl, rfl⟩ := hnil0 rfl
    have hn3 := fun (w : World) => Lib.run_eql_slice_nil (P := Trym.prog) w 22 9 none 0 0 0 0 Trym.underlying22
    clear hn2
    show Calls Trym.prog 10 #[.slice none 0 0] w _
    go_enter Trym.func10, Trym.ntmps10
    go_wp2
    go_ret
    exact ⟨none, rfl, .inl ⟨rfl, rfl⟩, Below.refl _ _⟩
  | some x =>
    clear hnil0
    go_enter Trym.func10, Trym.ntmps10
    go_wp2_with (first | (at_make; refine wpList_makeB rfl _ _ 22 rfl 9 (.string ByteArray.empty) [.string ByteArray.empty] rfl 1 16 rfl Trym.underlying22 Trym.info9 _ _ _ _ ss.length rfl rfl rfl rfl (by omega) (by unfold maxLen; omega) ?_; intro gd w1 hgd hBd hgr1) | fail)
    replace hBd : Blk w1 gd (partS ss 0) 9 := by rw [partS_zero]; first | exact hBd | simpa [flat_one_cells] using hBd
    have hb1 := grownBelow hgr1
    go_loopw [4] (fun i wr => ∃ k : Nat, k ≤ ss.length ∧ i = .int .i64 k ∧ Blk wr gd (partS ss k) 9 ∧ Below w.heap.size w wr)
      (fun i _ => ss.length - (intOf i).toNat)
    case atStart => exact ⟨0, Nat.zero_le _, rfl, hBd, hb1⟩
    case round =>
      obtain ⟨k, hk, rfl, hBr, hbr⟩ := hrel
      clear hBd hgr1 hb1
      by_cases hlt : k < ss.length
      · obtain ⟨s, hs⟩ : ∃ s, ss[k]? = some s := ⟨_, List.getElem?_eq_getElem hlt⟩
        obtain ⟨b, off, hx, hc⟩ := HA.out k s hs
        cases hx
        have hcr : wr.cell? ⟨b, off + k, none⟩ = some (.string s) := (hbr.cell (World.block_lt_of_cell? w _ hc)).trans hc
        have HX : Hid (ss[k]? = some s) := hs
        clear hs hc
        go_wp2_with (first | ((with_reducible show wpList _ _ _ (Oper.mk _ (Op.store 9 _ _) _ _ _ _ :: _) _ _); refine wpList_store1B rfl 9 _ _ rfl gd k rfl (.string s) rfl rfl rfl _ 9 hBr Trym.size9 (by rw [partS_length ss k hk]; exact hlt) ?_; intro w4 hB4 hg4) | fail)
        rw [partS_step ss k s HX.out] at hB4
        go_roundw
        case rel => exact ⟨k + 1, by omega, by go_num, hB4, hbr.grown hg4 hbr.size (fun q hq => by cases hq; exact hgd)⟩
        case measure => simp [intOf]; omega
      · obtain rfl : k = ss.length := by omega
        rw [partS_all] at hBr
        go_wp2
        go_ret
        exact ⟨_, rfl, .inr ⟨gd, rfl, hBr⟩, hbr⟩
end Go.Proofs.Qxb6603070aMods.M
