import Derived.Test.Qxb6600849aModsEscClone
import Derived.Deep.RegionLaw
import Derived.Deep.RegionLawGrows
namespace Go.Proofs.Qxb6600849aMods.Esc
open Go.RowKit Go.Proofs.Qxb6600849aMods.Plain

/-- The digit's character. -/
def hd (n : Int) : Int := if n < 10 then 48 + n else 87 + n
/-- What appendEscape appends. -/
def esc (c : Int) : List Int :=
  if c = 34 ∨ c = 92 then [92, c] else if c = 8 then [92, 98] else if c = 12 then [92, 102] else if c = 10 then [92, 110] else if c = 13 then [92, 114] else if c = 9 then [92, 116]
  else [92, 117, 48, 48, hd (c / 16), hd (c % 16)]

theorem own_below {B : Nat} {v : Value} {n : Nat} {xs : List Value} {w w1 : World} {o : Obj} (hB : B ≤ w.heap.size) (hown : w.ownsRow B 5 1 v n xs) (hg : (w.alloc o).grownBy w1 v.ownBlock) : Below B w w1 :=
  ((Below.refl _ _).alloc hB _).grown hg (by simp; omega) (fun k hk => (hown.lt k hk).1)

theorem two_cells (d : Int) : ∀ u ∈ [Value.int .u8 92, .int .u8 d], u.oneCell' = true := ints_oneCell .u8 [92, d]

set_option maxHeartbeats 1600000 in
theorem app_two (c : Int) (d : Int) (v : Value) (n : Nat) (xs : List Value) (B : Nat) (w : World) (hB : B ≤ w.heap.size) (hn : n ≤ 1048576) (hown : w.ownsRow B 5 1 v n xs)
    (hcd : (c = 34 ∧ d = 34) ∨ (c = 92 ∧ d = 92) ∨ (c = 8 ∧ d = 98) ∨ (c = 12 ∧ d = 102) ∨ (c = 10 ∧ d = 110) ∨ (c = 13 ∧ d = 114) ∨ (c = 9 ∧ d = 116)) :
    Calls Trym.prog 18 #[v, .int .u8 c] w fun e w' => ∃ v', e = .returned v' ∧ w'.ownsRow B 5 1 v' (n + 2) (xs ++ [.int .u8 92, .int .u8 d]) ∧ Below B w w' := by
  obtain ⟨i0, hi, hz0, hz1, hz2⟩ := info_parts Trym.info5
  rcases hcd with ⟨rfl, rfl⟩ | ⟨rfl, rfl⟩ | ⟨rfl, rfl⟩ | ⟨rfl, rfl⟩ | ⟨rfl, rfl⟩ | ⟨rfl, rfl⟩ | ⟨rfl, rfl⟩
  all_goals
    go_enter Trym.func18, Trym.ntmps18
    go_wp2_with (first | (at_builtin; refine wpList_append_own _ rfl _ _ 22 rfl B 5 i0 (.int .u8 0) 1 1 Trym.underlying22 hi hz0 hz1 hz2 rfl (by decide) _ _ _ rfl (hown.alloc _) ⟨w.heap.size, 0, none⟩ 2 2 [.int .u8 92, .int .u8 _] rfl rfl (new_cells w #[_, _] 5) (two_cells _) (by unfold maxLen; omega) (by omega) (by simp; omega) ?_) | fail)
    intro v' w1 hown' hgrow _
    go_wp2
    go_ret
    exact ⟨_, rfl, hown', own_below hB hown hgrow⟩

theorem and15_fin : ∀ n : Fin 256, bits .and .u8 (n.val : Int) 15 = (n.val : Int) % 16 := by decide +kernel
theorem and15 (c : Int) (h0 : 0 ≤ c) (h1 : c ≤ 255) : bits .and .u8 c 15 = c % 16 := by
  have h := and15_fin ⟨c.toNat, by omega⟩
  have e : ((c.toNat : Nat) : Int) = c := by omega
  simpa [e] using h

def digitsB : ByteArray := { data := #[48, 49, 50, 51, 52, 53, 54, 55, 56, 57, 97, 98, 99, 100, 101, 102] }
theorem digit_fin : ∀ n : Fin 16, ((digitsB[n.val]!).toNat : Int) = hd (n.val : Int) := by decide +kernel
theorem digit_at (i : Int) (h0 : 0 ≤ i) (h1 : i < 16) (hp : i.toNat < ByteArray.size { data := #[48, 49, 50, 51, 52, 53, 54, 55, 56, 57, 97, 98, 99, 100, 101, 102] }) : ((({ data := #[48, 49, 50, 51, 52, 53, 54, 55, 56, 57, 97, 98, 99, 100, 101, 102] } : ByteArray)[i.toNat]'hp).toNat : Int) = hd i := by
  have h := digit_fin ⟨i.toNat, by omega⟩
  have e : ((i.toNat : Nat) : Int) = i := by omega
  have e2 : digitsB[i.toNat]! = digitsB[i.toNat]'hp := getElem!_pos _ _ _
  simp only [e, e2] at h
  exact h

theorem six_cells (a b : Int) : ∀ u ∈ [Value.int .u8 92, .int .u8 117, .int .u8 48, .int .u8 48, .int .u8 a, .int .u8 b], u.oneCell' = true := ints_oneCell .u8 [92, 117, 48, 48, a, b]

set_option maxHeartbeats 1600000 in
theorem app_six (c : Int) (h0 : 0 ≤ c) (h1 : c ≤ 255) (v : Value) (n : Nat) (xs : List Value) (B : Nat) (w : World) (hB : B ≤ w.heap.size) (hn : n ≤ 1048576) (hown : w.ownsRow B 5 1 v n xs)
    (n1 : (c == 34) = false) (n2 : (c == 92) = false) (n3 : (c == 8) = false) (n4 : (c == 12) = false) (n5 : (c == 10) = false) (n6 : (c == 13) = false) (n7 : (c == 9) = false) :
    Calls Trym.prog 18 #[v, .int .u8 c] w fun e w' => ∃ v', e = .returned v' ∧ w'.ownsRow B 5 1 v' (n + 6) (xs ++ [.int .u8 92, .int .u8 117, .int .u8 48, .int .u8 48, .int .u8 (hd (c / 16)), .int .u8 (hd (c % 16))]) ∧ Below B w w' := by
  obtain ⟨i0, hi, hz0, hz1, hz2⟩ := info_parts Trym.info5
  have a1 : 0 ≤ c / 16 := by omega
  have a2 : c / 16 < 16 := by omega
  have a3 : 0 ≤ c % 16 := by omega
  have a4 : c % 16 < 16 := by omega
  have a5 := and15 c h0 h1
  have d1 := digit_at (c / 16) a1 a2
  have d2 := digit_at (c % 16) a3 a4
  go_enter Trym.func18, Trym.ntmps18
  go_wp2
  go_region_law (refine step_append_own rfl (.tmp 38) (.tmp 45) 22 rfl B 5 i0 (.int .u8 0) 1 1 Trym.underlying22 hi hz0 hz1 hz2 rfl (by decide) v n xs rfl (by exact World.ownsRow.alloc (World.ownsRow.drew hown) _) ⟨w.heap.size, 0, none⟩ 6 6 [.int .u8 92, .int .u8 117, .int .u8 48, .int .u8 48, .int .u8 (hd (c / 16)), .int .u8 (hd (c % 16))] rfl rfl (by exact new_cells w.drew #[_, _, _, _, _, _] 5) (six_cells _ _) (by unfold maxLen; omega) (by omega) (by simp; omega) ?_; intro v' w1 hown' hgrow)
  all_goals
    go_wp2
    go_ret
    exact ⟨_, rfl, hown', ((Below.refl _ _).alloc hB _).drew.grown hgrow (by simp; omega) (fun k hk => (hown.lt k hk).1)⟩

/-- appendEscape onto a slice of the call's own. -/
theorem app_any (c : Int) (h0 : 0 ≤ c) (h1 : c ≤ 255) (v : Value) (n : Nat) (xs : List Value) (B : Nat) (w : World) (hB : B ≤ w.heap.size) (hn : n ≤ 1048576) (hown : w.ownsRow B 5 1 v n xs) :
    Calls Trym.prog 18 #[v, .int .u8 c] w fun e w' => ∃ v', e = .returned v' ∧ w'.ownsRow B 5 1 v' (n + (esc c).length) (xs ++ (esc c).map (Value.int .u8)) ∧ Below B w w' := by
  by_cases a : (c = 34 ∧ (c : Int) = 34) ∨ (c = 92 ∧ (c : Int) = 92)
  · have e : esc c = [92, c] := by unfold esc; rw [if_pos (by omega)]
    rw [e]
    exact app_two c c v n xs B w hB hn hown (by omega)
  have a' : ¬ (c = 34 ∨ c = 92) := by omega
  by_cases b : c = 8
  · have e : esc c = [92, 98] := by unfold esc; rw [if_neg a', if_pos b]
    rw [e]
    exact app_two c 98 v n xs B w hB hn hown (by omega)
  by_cases d : c = 12
  · have e : esc c = [92, 102] := by unfold esc; rw [if_neg a', if_neg b, if_pos d]
    rw [e]
    exact app_two c 102 v n xs B w hB hn hown (by omega)
  by_cases f : c = 10
  · have e : esc c = [92, 110] := by unfold esc; rw [if_neg a', if_neg b, if_neg d, if_pos f]
    rw [e]
    exact app_two c 110 v n xs B w hB hn hown (by omega)
  by_cases g : c = 13
  · have e : esc c = [92, 114] := by unfold esc; rw [if_neg a', if_neg b, if_neg d, if_neg f, if_pos g]
    rw [e]
    exact app_two c 114 v n xs B w hB hn hown (by omega)
  by_cases h : c = 9
  · have e : esc c = [92, 116] := by unfold esc; rw [if_neg a', if_neg b, if_neg d, if_neg f, if_neg g, if_pos h]
    rw [e]
    exact app_two c 116 v n xs B w hB hn hown (by omega)
  · have e : esc c = [92, 117, 48, 48, hd (c / 16), hd (c % 16)] := by unfold esc; rw [if_neg a', if_neg b, if_neg d, if_neg f, if_neg g, if_neg h]
    rw [e]
    exact app_six c h0 h1 v n xs B w hB hn hown (by simpa using fun x => a' (Or.inl x)) (by simpa using fun x => a' (Or.inr x)) (by simpa using b) (by simpa using d) (by simpa using f) (by simpa using g) (by simpa using h)

theorem zzapp_any (c : Int) (h0 : 0 ≤ c) (h1 : c ≤ 255) (v : Value) (n : Nat) (xs : List Value) (B : Nat) (w : World) (hB : B ≤ w.heap.size) (hn : n ≤ 1048576) (hown : w.ownsRow B 5 1 v n xs) :
    Calls Trym.prog 9 #[v, .int .u8 c] w fun e w' => ∃ v', e = .returned v' ∧ w'.ownsRow B 5 1 v' (n + (esc c).length) (xs ++ (esc c).map (Value.int .u8)) ∧ Below B w w' := by
  have H := app_any c h0 h1 v n xs B w hB hn hown
  have HH : Hid (Calls Trym.prog 18 #[v, .int .u8 c] w fun e w' => ∃ v', e = .returned v' ∧ w'.ownsRow B 5 1 v' (n + (esc c).length) (xs ++ (esc c).map (Value.int .u8)) ∧ Below B w w') := H
  clear H
  go_enter Trym.func9, Trym.ntmps9
  go_wp2_with fail
  refine HH.out.mono ?_
  rintro e w' ⟨v', rfl, hr⟩
  go_wp2
  go_ret
  exact ⟨_, rfl, hr⟩
end Go.Proofs.Qxb6600849aMods.Esc
