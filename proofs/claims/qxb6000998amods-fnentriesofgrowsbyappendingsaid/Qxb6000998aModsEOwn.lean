import Derived.Test.Qxb6000998aModsEClone
namespace Go.Proofs.Qxb6000998aMods.E
open Go.RowKit Go.Proofs.Qxb6000998aMods.L

theorem Row.oneCell {w : World} {v : Value} {zs : List Int} (h : Row w v zs) : v.oneCell' = true ∧ v.cells = #[v] := by
  rcases h with ⟨rfl, _⟩ | ⟨g, rfl, _⟩ <;> exact ⟨rfl, rfl⟩

theorem not_other {w : World} {g : Nat} {D : List Value} {t t' : TypeId} (h : Blk w g D t) (hne : t ≠ t') : ∀ C, ¬ Blk w g C t' := by
  intro C hC
  unfold Blk at h hC
  rw [h] at hC
  simp at hC
  exact hne hC.2

theorem set_mid (us : List Value) (n k : Nat) (u z : Value) (hl : us.length = k) (hk : k < n) : (us ++ List.replicate (n - k) z).set k u = (us ++ [u]) ++ List.replicate (n - (k + 1)) z := by
  have e : n - k = (n - (k + 1)) + 1 := by omega
  rw [e, List.replicate_succ, List.set_append, if_neg (by omega), hl, Nat.sub_self, List.set_cons_zero]
  simp

theorem snoc_get {us : List Value} {k : Nat} {u : Value} (hl : us.length = k) {R : Nat → Value → Prop} (h : ∀ i v, us[i]? = some v → R i v) (hu : R k u) : ∀ i v, (us ++ [u])[i]? = some v → R i v := by
  intro i v hv
  by_cases hi : i < k
  · rw [List.getElem?_append_left (by omega)] at hv
    exact h i v hv
  · rw [List.getElem?_append_right (by omega)] at hv
    by_cases h2 : i = k
    · subst h2
      rw [hl, Nat.sub_self] at hv
      simp at hv
      subst hv
      exact hu
    · rw [List.getElem?_eq_none (by simp; omega)] at hv
      cases hv

theorem cloneOwners_nil (w : World) :
    Calls Trym.prog 18 #[.slice none 0 0] w fun e w' => ∃ v, e = .returned v ∧ Owners w' v [] ∧ Below w.heap.size w w' := by
  have hnil := fun (w : World) => Lib.run_eql_slice_nil (P := Trym.prog) w 45 53 none 0 0 0 0 Trym.underlying45
  go_enter Trym.func18, Trym.ntmps18
  go_wp2
  go_ret
  exact ⟨_, rfl, .inl ⟨rfl, rfl⟩, Below.refl _ _⟩

set_option maxHeartbeats 800000 in
theorem cloneOwners_empty (x : Addr) (cap : Nat) (w : World) :
    Calls Trym.prog 18 #[.slice (some x) 0 cap] w fun e w' => ∃ v, e = .returned v ∧ Owners w' v [] ∧ Below w.heap.size w w' := by
  have hnil := fun (w : World) => Lib.run_eql_slice_nil (P := Trym.prog) w 45 53 (some x) 0 cap 0 0 Trym.underlying45
  go_enter Trym.func18, Trym.ntmps18
  go_wp2_with (first | (at_make; refine wpList_makeB rfl _ _ 45 rfl 53 (.slice none 0 0) [.slice none 0 0] rfl 1 24 rfl Trym.underlying45 Trym.info53 _ _ _ _ 0 rfl rfl rfl rfl (by omega) (by unfold maxLen; omega) ?_) | fail)
  intro g w1 hg hblk hgrow
  have hb1 := grownBelow hgrow
  go_wp2
  refine wp_loop_rounds 1 ?_
  rw [rounds_succ]
  go_wp2
  go_ret
  exact ⟨_, rfl, .inr ⟨g, [], rfl, by simpa using hblk, rfl, fun i u zs h => by simp at h⟩, hb1⟩

set_option maxHeartbeats 1600000 in
theorem cloneOwners_any (b off cap : Nat) (O : List (List Int)) (vs : List Value) (w : World) (hO : O.length ≤ 65536) (hr : ∀ row ∈ O, row.length ≤ 65536) (hbw : b < w.heap.size)
    (hc : ∀ j, j < O.length → w.cell? ⟨b, off + j, none⟩ = some (vs.getD j undef)) (hin : ∀ j, j < O.length → InRow w (vs.getD j undef) (O.getD j [])) :
    Calls Trym.prog 18 #[.slice (some ⟨b, off, none⟩) O.length cap] w fun e w' => ∃ v, e = .returned v ∧ Owners w' v O ∧ Below w.heap.size w w' := by
  have hnil := fun (w : World) => Lib.run_eql_slice_nil (P := Trym.prog) w 45 53 (some ⟨b, off, none⟩) O.length cap 0 0 Trym.underlying45
  go_enter Trym.func18, Trym.ntmps18
  go_wp2_with (first | (at_make; refine wpList_makeB rfl _ _ 45 rfl 53 (.slice none 0 0) [.slice none 0 0] rfl 1 24 rfl Trym.underlying45 Trym.info53 _ _ _ _ O.length rfl rfl rfl rfl (by omega) (by unfold maxLen; omega) ?_) | fail)
  intro g w1 hg hblk hgrow
  replace hblk : Blk w1 g (List.replicate O.length (Value.slice none 0 0)) 53 := by first | exact hblk | simpa [flat_one_cells] using hblk
  have hb1 := grownBelow hgrow
  go_wp2
  go_loopw [4] (fun i wr => ∃ (k : Nat) (us : List Value), k ≤ O.length ∧ i = .int .i64 k ∧ us.length = k ∧ Blk wr g (us ++ List.replicate (O.length - k) (Value.slice none 0 0)) 53 ∧ (∀ (i : Nat) u, us[i]? = some u → ∀ zs, O[i]? = some zs → Row wr u zs) ∧ Below w.heap.size w wr)
    (fun i _ => O.length - (intOf i).toNat)
  case atStart => exact ⟨0, [], Nat.zero_le _, rfl, rfl, by simpa using hblk, fun i u h => by simp at h, hb1⟩
  case round =>
    obtain ⟨k, us, hk, rfl, hul, hown, hrows, hbel⟩ := hrel
    clear hblk hgrow hb1
    by_cases hlt : k < O.length
    · have hcx : wr.cell? ⟨b, off + k, none⟩ = some (vs.getD k undef) := (hbel.cell (by exact hbw)).trans (hc k hlt)
      have hik := hin k hlt
      obtain ⟨v, hv1⟩ : ∃ v, v = vs.getD k undef := ⟨_, rfl⟩
      obtain ⟨zs, hz1⟩ : ∃ zs, zs = O.getD k [] := ⟨_, rfl⟩
      have hz2 : O[k]? = some zs := by rw [hz1]; simp [List.getD, hlt]
      have hzl : zs.length ≤ 65536 := hr zs (List.mem_of_getElem? hz2)
      rw [← hv1] at hcx hik
      rw [← hz1] at hik
      have HI : Hid (InRow w v zs) := hik
      have HZ : Hid (O[k]? = some zs) := hz2
      clear hv1 hz1 hz2 hik
      go_wp2_with fail
      refine (cloneRow_in HI.out hzl hbel).mono ?_
      rintro e w2 ⟨u, rfl, hru, hb2⟩
      have hown2 := hown.all hb2
      obtain ⟨ou, cu⟩ := hru.oneCell
      go_wp2_with (first | (with_reducible show wpList _ _ _ (Oper.mk _ (Op.store 53 _ _) _ _ _ _ :: _) _ _; refine wpList_store1B rfl 53 _ _ rfl g k rfl u rfl cu ou _ 53 hown2 Trym.size53 (by simp; omega) ?_; intro w3 hown3 hg3) | fail)
      rw [set_mid us O.length k u _ hul hlt] at hown3
      have hno := not_other hown2 (by decide : (53 : TypeId) ≠ 54)
      have hb3 : Below w.heap.size w w3 := (hbel.trans (hb2.mono hbel.size)).grown hg3 (Nat.le_trans hbel.size hb2.size) (fun q hq => by cases hq; exact hg)
      have hrows3 : ∀ (i : Nat) x, (us ++ [u])[i]? = some x → ∀ zs, O[i]? = some zs → Row w3 x zs := by
        refine snoc_get hul (R := fun i x => ∀ zs, O[i]? = some zs → Row w3 x zs) ?_ ?_
        · intro i x hx zs' hzs'
          exact ((hrows i x hx zs' hzs').all hb2).grown hg3 hno
        · intro zs' hzs'
          rw [HZ.out] at hzs'
          cases hzs'
          exact hru.grown hg3 hno
      go_roundw
      case rel => exact ⟨k + 1, us ++ [u], by omega, by go_num, by simp [hul], hown3, hrows3, hb3⟩
      case measure => simp [intOf]; omega
    · go_wp2
      go_ret
      obtain rfl : k = O.length := by omega
      rw [Nat.sub_self, List.replicate_zero, List.append_nil] at hown
      exact ⟨_, rfl, .inr ⟨g, us, rfl, hown, hul, fun i u zs h1 h2 => hrows i u h1 zs h2⟩, hbel⟩

/-- cloneOwners at what came in. -/
theorem cloneOwners_in {w w1 : World} {a0 : Option Addr} {len cap : Nat} {O : List (List Int)} (h : InRows w a0 len cap O) (hO : O.length ≤ 65536) (hr : ∀ row ∈ O, row.length ≤ 65536) (hw : w1 = w) :
    Calls Trym.prog 18 #[.slice a0 len cap] w1 fun e w' => ∃ v, e = .returned v ∧ Owners w' v O ∧ Below w1.heap.size w1 w' := by
  subst hw
  obtain ⟨rfl, h⟩ := h
  rcases h with ⟨rfl, h0, rfl⟩ | ⟨x, vs, rfl, hc, hin⟩
  · rw [h0]
    have : O = [] := List.eq_nil_of_length_eq_zero h0
    subst this
    exact cloneOwners_nil w1
  · by_cases h0 : O.length = 0
    · have : O = [] := List.eq_nil_of_length_eq_zero h0
      subst this
      exact cloneOwners_empty x cap w1
    · have hin0 := hin 0 (by omega)
      have hc1 := hc 0 (by omega)
      obtain ⟨b, off, spot⟩ := x
      have hspot : spot = none := by simpa [Addr.add] using World.cell?_spot hc1
      subst hspot
      have hbw : b < w1.heap.size := World.block_lt_of_cell? w1 _ (by simpa [Addr.add] using hc1)
      refine cloneOwners_any b off cap O vs w1 hO hr hbw ?_ hin
      intro j hj
      have := hc j hj
      rwa [Addr.add_lit] at this
end Go.Proofs.Qxb6000998aMods.E
