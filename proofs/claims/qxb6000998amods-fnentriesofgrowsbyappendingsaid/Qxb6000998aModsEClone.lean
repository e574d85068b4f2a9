import Derived.Test.Qxb6000998aModsRows
import Derived.Test.Qxb6000998aModsEPlain
import Derived.OpenShut
import Derived.WalkSpells
import Derived.WalkLawsBesides
import Derived.Deep.QuietTactic
import Derived.Maps.RangeWalk
namespace Go.Proofs.Qxb6000998aMods.E
open Go.RowKit Go.Proofs.Qxb6000998aMods.L

theorem Trym.info54 : (Trym.prog.info? 54).map (fun i => (i.zero, i.size, i.bytes)) = some (some (.int .u16 0), 1, 2) := by kernel_rfl
theorem Trym.info53 : (Trym.prog.info? 53).map (fun i => (i.zero, i.size, i.bytes)) = some (some (.slice none 0 0), 1, 24) := by kernel_rfl
theorem Trym.size53 : (Trym.prog.info? 53).map (·.size) = some 1 := by kernel_rfl
theorem Trym.size54 : (Trym.prog.info? 54).map (·.size) = some 1 := by kernel_rfl

/-- A row of owners that came in. -/
def InRow (w : World) (v : Value) (zs : List Int) : Prop :=
  ∃ a c, v = .slice a zs.length c ∧ (∀ n ∈ zs, 0 ≤ n ∧ n ≤ 65535) ∧ ((a = none ∧ zs = [] ∧ c = 0) ∨ ∃ x, a = some x ∧ ∀ j, j < zs.length → w.cell? (x.add j) = some (.int .u16 (zs.getD j 0)))
/-- The rows that came in. -/
def InRows (w : World) (a0 : Option Addr) (len cap : Nat) (O : List (List Int)) : Prop :=
  O.length = len ∧ ((a0 = none ∧ len = 0 ∧ cap = 0) ∨ ∃ (x : Addr) (vs : List Value), a0 = some x ∧ (∀ j, j < len → w.cell? (x.add j) = some (vs.getD j undef)) ∧ ∀ j, j < len → InRow w (vs.getD j undef) (O.getD j []))

/-- A row of owners of the call's own. -/
def Row (w : World) (v : Value) (zs : List Int) : Prop := (v = .slice none 0 0 ∧ zs = []) ∨ ∃ g, v = .slice (some ⟨g, 0, none⟩) zs.length zs.length ∧ Blk w g (zs.map (Value.int .u16)) 54
theorem Row.all {w w' : World} {v : Value} {zs : List Int} (h : Row w v zs) (b : Below w.heap.size w w') : Row w' v zs := by
  rcases h with h | ⟨g, hv, hg⟩
  · exact .inl h
  · exact .inr ⟨g, hv, hg.all b⟩
theorem Row.grown {w w' : World} {v : Value} {zs : List Int} {k : Nat} (h : Row w v zs) (g : w.grownBy w' (some k)) (hk : ∀ C, ¬ Blk w k C 54) : Row w' v zs := by
  rcases h with h | ⟨b, hv, hg⟩
  · exact .inl h
  · refine .inr ⟨b, hv, hg.grown g ?_⟩
    intro e
    cases e
    exact hk _ hg
theorem Row.shape {w : World} {v : Value} {zs : List Int} (h : Row w v zs) : ∃ a, v = .slice a zs.length zs.length := by
  rcases h with ⟨rfl, rfl⟩ | ⟨g, rfl, _⟩
  · exact ⟨none, rfl⟩
  · exact ⟨_, rfl⟩

theorem cloneRow_nil (w : World) :
    Calls Trym.prog 26 #[.slice none 0 0] w fun e w' => ∃ v, e = .returned v ∧ Row w' v [] ∧ Below w.heap.size w w' := by
  have hnil := fun (w : World) => Lib.run_eql_slice_nil (P := Trym.prog) w 53 54 none 0 0 0 0 Trym.underlying53
  go_enter Trym.func26, Trym.ntmps26
  go_wp2
  go_ret
  exact ⟨_, rfl, .inl ⟨rfl, rfl⟩, Below.refl _ _⟩

def partI (zs : List Int) (len k : Nat) : List Int := zs.take k ++ List.replicate (len - k) 0
theorem partI_length (zs : List Int) (len k : Nat) (hk : k ≤ len) (hx : len ≤ zs.length) : (partI zs len k).length = len := by simp [partI]; omega
theorem partI_step (zs : List Int) (len k : Nat) (hk : k < len) (hx : len ≤ zs.length) (x : Int) (h : zs[k]? = some x) : (partI zs len k).set k x = partI zs len (k + 1) := by
  have hkl : k < zs.length := by omega
  have e : len - k = (len - (k + 1)) + 1 := by omega
  have ex : zs[k] = x := by rw [List.getElem?_eq_getElem hkl] at h; exact Option.some.inj h
  unfold partI
  rw [e, List.replicate_succ, List.set_append]
  rw [if_neg (by simp; omega)]
  have e2 : k - (zs.take k).length = 0 := by simp; omega
  rw [e2, List.set_cons_zero, List.take_succ_eq_append_getElem hkl, ex]
  simp
theorem partI_all (zs : List Int) : partI zs zs.length zs.length = zs := by simp [partI]

theorem flat_one_cells (n : Nat) (v : Value) : (List.replicate n [v]).flatten = List.replicate n v := by
  induction n with
  | zero => rfl
  | succ n ih => rw [List.replicate_succ, List.flatten_cons, ih, List.replicate_succ]; rfl

set_option maxHeartbeats 800000 in
theorem cloneRow_any (b off cap : Nat) (zs : List Int) (w : World) (hlen : zs.length ≤ 65536) (hbw : b < w.heap.size)
    (hc : ∀ j, j < zs.length → w.cell? ⟨b, off + j, none⟩ = some (.int .u16 (zs.getD j 0))) :
    Calls Trym.prog 26 #[.slice (some ⟨b, off, none⟩) zs.length cap] w fun e w' => ∃ v, e = .returned v ∧ Row w' v zs ∧ Below w.heap.size w w' := by
  have hnil := fun (w : World) => Lib.run_eql_slice_nil (P := Trym.prog) w 53 54 (some ⟨b, off, none⟩) zs.length cap 0 0 Trym.underlying53
  go_enter Trym.func26, Trym.ntmps26
  go_wp2_with (first | (at_make; refine wpList_makeB rfl _ _ 53 rfl 54 (.int .u16 0) [.int .u16 0] rfl 1 2 rfl Trym.underlying53 Trym.info54 _ _ _ _ zs.length rfl rfl rfl rfl (by omega) (by unfold maxLen; omega) ?_) | fail)
  intro g w1 hg hblk hgrow
  replace hblk : Blk w1 g (List.replicate zs.length (Value.int .u16 0)) 54 := by first | exact hblk | simpa [flat_one_cells] using hblk
  have hb1 := grownBelow hgrow
  go_wp2
  go_loopw [4] (fun i wr => ∃ k : Nat, k ≤ zs.length ∧ i = .int .i64 k ∧ Blk wr g ((partI zs zs.length k).map (Value.int .u16)) 54 ∧ Below w.heap.size w wr)
    (fun i _ => zs.length - (intOf i).toNat)
  case atStart => exact ⟨0, Nat.zero_le _, rfl, by simpa [partI] using hblk, hb1⟩
  case round =>
    obtain ⟨k, hk, rfl, hown, hbel⟩ := hrel
    clear hblk hgrow hb1
    by_cases hlt : k < zs.length
    · have hcx : wr.cell? ⟨b, off + k, none⟩ = some (.int .u16 (zs.getD k 0)) := (hbel.cell (by exact hbw)).trans (hc k hlt)
      have hlp : k < (partI zs zs.length k).length := by rw [partI_length _ _ _ hk (Nat.le_refl _)]; exact hlt
      obtain ⟨z, hz1⟩ : ∃ z, z = zs.getD k 0 := ⟨_, rfl⟩
      have hz2 : zs[k]? = some z := by rw [hz1]; simp [List.getD, hlt]
      rw [← hz1] at hcx
      have hcy := hown.cell k
      rw [List.getElem?_eq_getElem (by simpa using hlp)] at hcy
      have hfy := hown.frozen k
      obtain ⟨hs1, hs2⟩ := setCells_blk hown k [.int .u16 z] (by simp; omega)
      rw [putL_single _ _ _ (by simpa using hlp)] at hs1
      have e3 : ((partI zs zs.length k).map (Value.int .u16)).set k (.int .u16 z) = (partI zs zs.length (k + 1)).map (Value.int .u16) := by rw [← partI_step zs zs.length k hlt (Nat.le_refl _) z hz2, List.map_set]
      rw [e3] at hs1
      have HS1 : Hid (Blk (wr.setCell ⟨g, k, none⟩ (.int .u16 z)) g ((partI zs zs.length (k + 1)).map (Value.int .u16)) 54) := hs1
      clear hown hs1 hs2 hz1 hz2 e3 hc
      go_wp2
      go_roundw
      case rel => exact ⟨k + 1, by omega, by go_num, HS1.out, hbel.setCell hg _⟩
      case measure => simp [intOf]; omega
    · go_wp2
      go_ret
      obtain rfl : k = zs.length := by omega
      rw [partI_all] at hown
      exact ⟨_, rfl, .inr ⟨g, rfl, hown⟩, hbel⟩

set_option maxHeartbeats 800000 in
theorem cloneRow_empty (x : Addr) (cap : Nat) (w : World) :
    Calls Trym.prog 26 #[.slice (some x) 0 cap] w fun e w' => ∃ v, e = .returned v ∧ Row w' v [] ∧ Below w.heap.size w w' := by
  have hnil := fun (w : World) => Lib.run_eql_slice_nil (P := Trym.prog) w 53 54 (some x) 0 cap 0 0 Trym.underlying53
  go_enter Trym.func26, Trym.ntmps26
  go_wp2_with (first | (at_make; refine wpList_makeB rfl _ _ 53 rfl 54 (.int .u16 0) [.int .u16 0] rfl 1 2 rfl Trym.underlying53 Trym.info54 _ _ _ _ 0 rfl rfl rfl rfl (by omega) (by unfold maxLen; omega) ?_) | fail)
  intro g w1 hg hblk hgrow
  have hb1 := grownBelow hgrow
  go_wp2
  refine wp_loop_rounds 1 ?_
  rw [rounds_succ]
  go_wp2
  go_ret
  exact ⟨_, rfl, .inr ⟨g, rfl, by simpa using hblk⟩, hb1⟩

/-- The clone of a row that came in, in a later world. -/
theorem cloneRow_in {w w1 : World} {v : Value} {zs : List Int} (h : InRow w v zs) (hlen : zs.length ≤ 65536) (hb : Below w.heap.size w w1) :
    Calls Trym.prog 26 #[v] w1 fun e w' => ∃ v, e = .returned v ∧ Row w' v zs ∧ Below w1.heap.size w1 w' := by
  obtain ⟨a, c, rfl, _, h⟩ := h
  rcases h with ⟨rfl, rfl, rfl⟩ | ⟨x, rfl, hc⟩
  · exact cloneRow_nil w1
  · by_cases h0 : zs.length = 0
    · have : zs = [] := List.eq_nil_of_length_eq_zero h0
      subst this
      exact cloneRow_empty x c w1
    · have hc1 := hc 0 (by omega)
      obtain ⟨b, off, spot⟩ := x
      have hspot : spot = none := by simpa [Addr.add] using World.cell?_spot hc1
      subst hspot
      have hbw : b < w.heap.size := World.block_lt_of_cell? w _ (by simpa [Addr.add] using hc1)
      refine cloneRow_any b off c zs w1 hlen (Nat.lt_of_lt_of_le hbw hb.size) ?_
      intro j hj
      have := hc j hj
      rw [Addr.add_lit] at this
      exact (hb.cell (by exact hbw)).trans this

/-- The rows of the call's own. -/
def Owners (w : World) (v : Value) (O : List (List Int)) : Prop :=
  (v = .slice none 0 0 ∧ O = []) ∨ ∃ (g : Nat) (vs : List Value), v = .slice (some ⟨g, 0, none⟩) O.length O.length ∧ Blk w g vs 53 ∧ vs.length = O.length ∧ ∀ (i : Nat) u zs, vs[i]? = some u → O[i]? = some zs → Row w u zs
theorem Owners.all {w w' : World} {v : Value} {O : List (List Int)} (h : Owners w v O) (b : Below w.heap.size w w') : Owners w' v O := by
  rcases h with h | ⟨g, vs, hv, hg, hl, hr⟩
  · exact .inl h
  · exact .inr ⟨g, vs, hv, hg.all b, hl, fun i u zs h1 h2 => (hr i u zs h1 h2).all b⟩
end Go.Proofs.Qxb6000998aMods.E
