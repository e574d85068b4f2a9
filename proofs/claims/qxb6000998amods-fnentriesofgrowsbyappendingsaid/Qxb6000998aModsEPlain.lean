/-
  The plain side of entriesOf: entries as lists of cells; the first entry of each owner; tags. Nothing here names the dump.
-/
import Derived.Test.Qxb6000998aModsHeld
namespace Go.Proofs.Qxb6000998aMods.E
open Go.RowKit Go.Proofs.Qxb6000998aMods.L

/-- An owner's key: 32 bytes. -/
def keyI (o : Int) : List Int := o / 256 :: o % 256 :: List.replicate 30 0
theorem keyI_length (o : Int) : (keyI o).length = 32 := by simp [keyI]
theorem keyI_inj (a b : Int) (h : keyI a = keyI b) : a = b := by
  simp only [keyI, List.cons.injEq, and_true] at h
  omega
def keyC (o : Int) : List Value := (keyI o).map (Value.int .u8)
theorem keyC_length (o : Int) : (keyC o).length = 32 := by simp [keyC, keyI_length]

/-- The block of an entry: its kind, its tag, its owner. -/
def blk2 (tag o : Int) : List Value :=
  .int .u8 2 :: (List.replicate 32 (.int .u8 0) ++ (.int .u64 tag :: (List.replicate 64 (.int .u8 0) ++ (.slice none 0 0 :: (List.replicate 32 (.int .u8 0) ++ (.int .u64 o :: List.replicate 64 (.int .u8 0)))))))
theorem blk2_length (tag o : Int) : (blk2 tag o).length = 196 := by
  unfold blk2
  simp only [List.length_cons, List.length_append, List.length_replicate]
/-- An entry: (tag, owner). -/
def ent (p : Int × Int) : List Value := keyC p.2 ++ blk2 p.1 p.2
theorem ent_length (p : Int × Int) : (ent p).length = 228 := by simp [ent, keyC_length, blk2_length]
theorem ones_rep (n : Nat) (v : Value) (h : v.oneCell' = true) : Ones (List.replicate n v) := fun u hu => by rw [(List.mem_replicate.1 hu).2]; exact h
theorem ones_cons {v : Value} {l : List Value} (h : v.oneCell' = true) (hl : Ones l) : Ones (v :: l) := fun u hu => by
  rcases List.mem_cons.1 hu with rfl | h2
  · exact h
  · exact hl u h2
theorem blk2_ones (tag o : Int) : Ones (blk2 tag o) :=
  ones_cons rfl ((ones_rep _ _ rfl).append (ones_cons rfl ((ones_rep _ _ rfl).append (ones_cons rfl ((ones_rep _ _ rfl).append (ones_cons rfl (ones_rep _ _ rfl)))))))
theorem ent_ones (p : Int × Int) : Ones (ent p) := (Ones.ints _ _).append (blk2_ones _ _)
theorem ent_owner (p : Int × Int) : (ent p).take 32 = keyC p.2 := by
  unfold ent
  rw [List.take_append_of_le_length (by rw [keyC_length]; exact Nat.le_refl _), List.take_of_length_le (by rw [keyC_length]; exact Nat.le_refl _)]
theorem ent_blk (p : Int × Int) (c : Nat) : (ent p)[32 + c]? = (blk2 p.1 p.2)[c]? := by
  unfold ent
  rw [List.getElem?_append_right (by rw [keyC_length]; omega), keyC_length]
  congr 1; omega
theorem ent_kind (p : Int × Int) : (ent p)[32]? = some (.int .u8 2) := by rw [show 32 = 32 + 0 from rfl, ent_blk]; rfl
theorem ent_seq (p : Int × Int) : (ent p)[65]? = some (.int .u64 p.1) := by rw [show 65 = 32 + 33 from rfl, ent_blk]; rfl
theorem ent_round (p : Int × Int) : (ent p)[163]? = some (.int .u64 p.2) := by rw [show 163 = 32 + 131 from rfl, ent_blk]; rfl

/-- A row of entries, cell by cell. -/
def flat (L : List (Int × Int)) : List Value := (L.map ent).flatten
theorem flat_nil : flat [] = [] := rfl
theorem flat_append (L M : List (Int × Int)) : flat (L ++ M) = flat L ++ flat M := by simp [flat]
theorem flat_one (p : Int × Int) : flat [p] = ent p := by simp [flat]
theorem flat_length (L : List (Int × Int)) : (flat L).length = L.length * 228 := by
  induction L with
  | nil => rfl
  | cons p L ih =>
    have e : flat (p :: L) = ent p ++ flat L := by simp [flat]
    rw [e, List.length_append, ent_length, ih, List.length_cons]
    omega
theorem flat_ones (L : List (Int × Int)) : Ones (flat L) := fun v hv => by
  unfold flat at hv
  obtain ⟨l, hl, hvl⟩ := List.mem_flatten.1 hv
  obtain ⟨p, _, rfl⟩ := List.mem_map.1 hl
  exact ent_ones p v hvl
theorem flat_get (L : List (Int × Int)) : ∀ (k : Nat) (p : Int × Int) (c : Nat), L[k]? = some p → c < 228 → (flat L)[k * 228 + c]? = (ent p)[c]? := by
  induction L with
  | nil => intro k p c h; simp at h
  | cons q L ih =>
    intro k p c h hc
    have e : flat (q :: L) = ent q ++ flat L := by simp [flat]
    rw [e]
    cases k with
    | zero =>
      simp at h
      subst h
      rw [Nat.zero_mul, Nat.zero_add, List.getElem?_append_left (by rw [ent_length]; exact hc)]
    | succ k =>
      simp at h
      rw [List.getElem?_append_right (by rw [ent_length]; omega), ent_length, ← ih k p c h hc, show (k + 1) * 228 + c - 228 = k * 228 + c from by omega]
theorem flat_sub (L : List (Int × Int)) (k : Nat) (p : Int × Int) (h : L[k]? = some p) : ((flat L).drop (k * 228)).take 228 = ent p := by
  apply List.ext_getElem?
  intro c
  rw [List.getElem?_take, List.getElem?_drop]
  by_cases hc : c < 228
  · rw [if_pos hc, flat_get L k p c h hc]
  · rw [if_neg hc, List.getElem?_eq_none (by rw [ent_length]; omega)]
theorem flat_owner (L : List (Int × Int)) (k : Nat) (p : Int × Int) (h : L[k]? = some p) : ((flat L).drop (k * 228)).take 32 = keyC p.2 := by
  rw [← ent_owner p, ← flat_sub L k p h, List.take_take]
  rfl

/-! ### The first entry of each owner -/
def step (acc : List (Int × Int)) (p : Int × Int) : List (Int × Int) := if acc.any (fun q => decide (q.2 = p.2)) then acc else acc ++ [p]
def dd (L : List (Int × Int)) : List (Int × Int) := L.foldl step []
theorem dd_snoc (L : List (Int × Int)) (p : Int × Int) : dd (L ++ [p]) = step (dd L) p := by simp [dd]
theorem dd_append (L M : List (Int × Int)) : dd (L ++ M) = M.foldl step (dd L) := by simp [dd]
theorem step_hit {acc : List (Int × Int)} {p : Int × Int} (h : acc.any (fun q => decide (q.2 = p.2)) = true) : step acc p = acc := by simp only [step, h, if_true]
theorem step_miss {acc : List (Int × Int)} {p : Int × Int} (h : acc.any (fun q => decide (q.2 = p.2)) = false) : step acc p = acc ++ [p] := by simp [step, h]
theorem foldl_sub (M : List (Int × Int)) : ∀ acc, ∃ N, M.foldl step acc = acc ++ N ∧ List.Sublist N M := by
  induction M with
  | nil => intro acc; exact ⟨[], by simp, List.Sublist.refl _⟩
  | cons p M ih =>
    intro acc
    rw [List.foldl_cons]
    cases h : acc.any (fun q => decide (q.2 = p.2)) with
    | true =>
      rw [step_hit h]
      obtain ⟨N, h1, h2⟩ := ih acc
      exact ⟨N, h1, h2.cons p⟩
    | false =>
      rw [step_miss h]
      obtain ⟨N, h1, h2⟩ := ih (acc ++ [p])
      exact ⟨p :: N, by rw [h1]; simp, h2.cons_cons p⟩
theorem dd_sub (L : List (Int × Int)) : List.Sublist (dd L) L := by
  obtain ⟨N, h1, h2⟩ := foldl_sub L []
  unfold dd
  rw [h1]; simpa using h2
theorem dd_apart (L : List (Int × Int)) : (dd L).Pairwise (fun p q => p.2 ≠ q.2) := by
  have : ∀ (M acc : List (Int × Int)), acc.Pairwise (fun p q => p.2 ≠ q.2) → (M.foldl step acc).Pairwise (fun p q => p.2 ≠ q.2) := by
    intro M
    induction M with
    | nil => intro acc h; exact h
    | cons p M ih =>
      intro acc h
      rw [List.foldl_cons]
      cases hh : acc.any (fun q => decide (q.2 = p.2)) with
      | true => rw [step_hit hh]; exact ih acc h
      | false =>
        rw [step_miss hh]
        refine ih _ ?_
        rw [List.pairwise_append]
        refine ⟨h, by simp, ?_⟩
        intro a ha b hb
        simp only [List.mem_singleton] at hb
        subst hb
        intro e
        have : acc.any (fun q => decide (q.2 = b.2)) = true := List.any_eq_true.2 ⟨a, ha, by simp [e]⟩
        rw [this] at hh; cases hh
  exact this L [] (by simp)
theorem dd_length_le (L : List (Int × Int)) : (dd L).length ≤ L.length := (dd_sub L).length_le

/-! ### Tags -/
def tag (i j : Nat) : Int := (i : Int) * 4294967296 + (j : Int)
/-- The entries of row i. -/
def rowE (i : Nat) (row : List Int) : List (Int × Int) := row.mapIdx fun j o => (tag i j, o)
theorem rowE_length (i : Nat) (row : List Int) : (rowE i row).length = row.length := by simp [rowE]
theorem rowE_get (i : Nat) (row : List Int) (j : Nat) : (rowE i row)[j]? = (row[j]?).map fun o => (tag i j, o) := by simp [rowE]
def resE (O : List (List Int)) : List (List (Int × Int)) := O.mapIdx rowE
theorem resE_length (O : List (List Int)) : (resE O).length = O.length := by simp [resE]
theorem resE_get (O : List (List Int)) (i : Nat) : (resE O)[i]? = (O[i]?).map fun row => rowE i row := by simp [resE]
theorem resE_snoc (O : List (List Int)) (row : List Int) : resE (O ++ [row]) = resE O ++ [rowE O.length row] := by simp [resE, List.mapIdx_append]
theorem mem_flatten_resE {O : List (List Int)} {p : Int × Int} (h : p ∈ (resE O).flatten) : ∃ i j row o, O[i]? = some row ∧ row[j]? = some o ∧ p = (tag i j, o) := by
  obtain ⟨l, hl, hp⟩ := List.mem_flatten.1 h
  obtain ⟨i, hi⟩ := List.mem_iff_getElem?.1 hl
  rw [resE_get] at hi
  cases hr : O[i]? with
  | none => simp [hr] at hi
  | some row =>
    simp [hr] at hi
    subst hi
    obtain ⟨j, hj⟩ := List.mem_iff_getElem?.1 hp
    rw [rowE_get] at hj
    cases ho : row[j]? with
    | none => simp [ho] at hj
    | some o =>
      simp [ho] at hj
      exact ⟨i, j, row, o, hr, ho, hj.symm⟩
theorem rowE_sorted (i : Nat) (row : List Int) : (rowE i row).Pairwise (fun p q => p.1 < q.1) := by
  rw [List.pairwise_iff_getElem]
  intro a b ha hb hab
  have h1 := rowE_get i row a
  have h2 := rowE_get i row b
  rw [List.getElem?_eq_getElem ha] at h1
  rw [List.getElem?_eq_getElem hb] at h2
  rw [rowE_length] at ha hb
  simp [ha] at h1
  simp [hb] at h2
  rw [h1, h2]
  simp [tag]; omega
/-- The tags rise from entry to entry, where no row is longer than 2^32. -/
theorem resE_sorted (O : List (List Int)) (h : ∀ row ∈ O, row.length ≤ 4294967296) : (resE O).flatten.Pairwise (fun p q => p.1 < q.1) := by
  rw [List.pairwise_flatten]
  constructor
  · intro l hl
    obtain ⟨i, hi⟩ := List.mem_iff_getElem?.1 hl
    rw [resE_get] at hi
    cases hr : O[i]? with
    | none => simp [hr] at hi
    | some row => simp [hr] at hi; subst hi; exact rowE_sorted i row
  · rw [List.pairwise_iff_getElem]
    intro a b ha hb hab x hx y hy
    have h1 := resE_get O a
    have h2 := resE_get O b
    rw [List.getElem?_eq_getElem ha] at h1
    rw [List.getElem?_eq_getElem hb] at h2
    rw [resE_length] at ha hb
    simp [ha] at h1
    simp [hb] at h2
    rw [h1] at hx
    rw [h2] at hy
    obtain ⟨j, hj⟩ := List.mem_iff_getElem?.1 hx
    obtain ⟨k, hk⟩ := List.mem_iff_getElem?.1 hy
    rw [rowE_get] at hj hk
    cases ho : (O[a])[j]? with
    | none => simp [ho] at hj
    | some o =>
      cases ho2 : (O[b])[k]? with
      | none => simp [ho2] at hk
      | some o2 =>
        simp [ho] at hj
        simp [ho2] at hk
        subst hj; subst hk
        have l1 : j < (O[a]).length := (List.getElem?_eq_some_iff.1 ho).1
        have l2 := h _ (List.getElem_mem ha)
        simp only [tag]
        have : (j : Int) < 4294967296 := by omega
        have h3 : (a : Int) + 1 ≤ (b : Int) := by omega
        omega
end Go.Proofs.Qxb6000998aMods.E
