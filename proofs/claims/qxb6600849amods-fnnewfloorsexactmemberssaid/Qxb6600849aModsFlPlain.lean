/-
  The plain side of newFloors: the distinct members of a list, insertion into a sorted row, the count of runs. Nothing here names the dump.
-/
import Derived.Test.Qxb6600849aModsHeld
namespace Go.Proofs.Qxb6600849aMods.Fl
open Go.RowKit Go.Proofs.Qxb6600849aMods.L

def kstep (acc : List Int) (x : Int) : List Int := if x ∈ acc then acc else acc ++ [x]
def keysOf (S : List Int) : List Int := S.foldl kstep []
theorem keysOf_snoc (S : List Int) (x : Int) : keysOf (S ++ [x]) = kstep (keysOf S) x := by simp [keysOf]
theorem mem_fold (S : List Int) : ∀ (acc : List Int) (x : Int), x ∈ S.foldl kstep acc ↔ x ∈ acc ∨ x ∈ S := by
  induction S with
  | nil => intro acc x; simp
  | cons y S ih =>
    intro acc x
    rw [List.foldl_cons, ih]
    unfold kstep
    by_cases hy : y ∈ acc
    · rw [if_pos hy]
      constructor
      · rintro (h | h)
        · exact .inl h
        · exact .inr (List.mem_cons_of_mem _ h)
      · rintro (h | h)
        · exact .inl h
        · rcases List.mem_cons.1 h with rfl | h
          · exact .inl hy
          · exact .inr h
    · rw [if_neg hy]
      simp [or_assoc]
theorem mem_keysOf {S : List Int} {x : Int} : x ∈ keysOf S ↔ x ∈ S := by
  unfold keysOf
  rw [mem_fold]
  simp
theorem nodup_keysOf (S : List Int) : (keysOf S).Nodup := by
  have key : ∀ (S acc : List Int), acc.Nodup → (S.foldl kstep acc).Nodup := by
    intro S
    induction S with
    | nil => intro acc h; exact h
    | cons y S ih =>
      intro acc h
      rw [List.foldl_cons]
      refine ih _ ?_
      unfold kstep
      by_cases hy : y ∈ acc
      · rw [if_pos hy]; exact h
      · rw [if_neg hy, List.nodup_append]
        refine ⟨h, by simp, ?_⟩
        intro a ha b hb
        simp at hb
        subst hb
        intro e
        exact hy (e ▸ ha)
  exact key S [] List.nodup_nil
theorem keysOf_perm {S T : List Int} (h : S.Perm T) : (keysOf S).length = (keysOf T).length :=
  ((List.perm_ext_iff_of_nodup (nodup_keysOf S) (nodup_keysOf T)).2 (fun a => by rw [mem_keysOf, mem_keysOf]; exact h.mem_iff)).length_eq
theorem keysOf_le (S : List Int) : (keysOf S).length ≤ S.length := (nodup_keysOf S).length_le_of_subset (fun _ h => mem_keysOf.1 h)
theorem keysOf_new {S : List Int} {x : Int} (h : x ∉ S) : (keysOf (S ++ [x])).length = (keysOf S).length + 1 := by
  rw [keysOf_snoc]
  unfold kstep
  rw [if_neg (fun h2 => h (mem_keysOf.1 h2))]
  simp
theorem keysOf_old {S : List Int} {x : Int} (h : x ∈ S) : (keysOf (S ++ [x])).length = (keysOf S).length := by
  rw [keysOf_snoc]
  unfold kstep
  rw [if_pos (mem_keysOf.2 h)]

/-! ### A sorted row -/
def Srt (A : List Int) : Prop := A.Pairwise (· ≤ ·)
theorem insert_sorted {A B : List Int} {x : Int} (h : Srt (A ++ B)) (hB : ∀ q ∈ B, x < q) (hA : A = [] ∨ ∃ A' a, A = A' ++ [a] ∧ a ≤ x) : Srt (A ++ x :: B) := by
  unfold Srt at h ⊢
  rw [List.pairwise_append] at h ⊢
  obtain ⟨h1, h2, h3⟩ := h
  have hAx : ∀ a ∈ A, a ≤ x := by
    rcases hA with rfl | ⟨A', a, rfl, ha⟩
    · simp
    · rw [List.pairwise_append] at h1
      intro b hb
      rcases List.mem_append.1 hb with hb | hb
      · have := h1.2.2 b hb a (by simp)
        omega
      · simp at hb
        omega
  refine ⟨h1, ?_, ?_⟩
  · rw [List.pairwise_cons]
    exact ⟨fun q hq => by have := hB q hq; omega, h2⟩
  · intro a ha b hb
    rcases List.mem_cons.1 hb with rfl | hb
    · exact hAx a ha
    · exact h3 a ha b hb
theorem new_at {S : List Int} (h : Srt S) {k : Nat} {x y : Int} (hx : S[k + 1]? = some x) (hy : S[k]? = some y) (hne : x ≠ y) : x ∉ S.take (k + 1) := by
  intro hm
  obtain ⟨i, hi⟩ := List.mem_iff_getElem?.1 hm
  have hik : i < k + 1 := by
    have := (List.getElem?_eq_some_iff.1 hi).1
    simp at this
    omega
  rw [List.getElem?_take, if_pos hik] at hi
  unfold Srt at h
  rw [List.pairwise_iff_getElem] at h
  obtain ⟨l1, e1⟩ := List.getElem?_eq_some_iff.1 hx
  obtain ⟨l2, e2⟩ := List.getElem?_eq_some_iff.1 hy
  obtain ⟨l3, e3⟩ := List.getElem?_eq_some_iff.1 hi
  have a1 := h k (k + 1) l2 l1 (by omega)
  rw [e1, e2] at a1
  by_cases he : i = k
  · subst he
    rw [e2] at e3
    exact hne e3.symm
  · have a2 := h i k l3 l2 (by omega)
    rw [e2, e3] at a2
    omega
theorem old_at {S : List Int} {k : Nat} {x : Int} (hy : S[k]? = some x) : x ∈ S.take (k + 1) := by
  refine List.mem_of_getElem? (i := k) ?_
  rw [List.getElem?_take, if_pos (by omega)]
  exact hy

/-! ### The map of the members -/
theorem put_keys {kv : List (Int × Value)} {S : List Int} {x : Int} {v : Value} (h : kv.map (·.1) = keysOf S) :
    ((match atKey x kv 0 with | some y => kv.set y.1 (x, v) | none => kv ++ [(x, v)] : List (Int × Value)).map (fun q : Int × Value => q.1)) = keysOf (S ++ [x]) := by
  rw [keysOf_snoc]
  unfold kstep
  cases hat : atKey x kv 0 with
  | none =>
    have hn := (atKey_none x kv 0).1 hat
    have : x ∉ keysOf S := by
      rw [← h]
      intro hm
      obtain ⟨p, hp, e⟩ := List.mem_map.1 hm
      exact hn p hp e
    rw [if_neg this, ← h]
    simp
  | some y =>
    have hg := atKey_get x kv y.1 y.2 hat
    have : x ∈ keysOf S := by
      rw [← h]
      exact List.mem_map.2 ⟨_, List.mem_of_getElem? hg, rfl⟩
    rw [if_pos this, ← h]
    simp only [List.map_set]
    obtain ⟨l1, e1⟩ := List.getElem?_eq_some_iff.1 hg
    have hl : y.1 < (kv.map (·.1)).length := by simpa using l1
    have he : (kv.map (·.1))[y.1] = x := by simp [e1]
    conv => lhs; arg 3; rw [← he]
    exact List.set_getElem_self hl
theorem put_mem {kv : List (Int × Value)} {x : Int} {v : Value} {p : Int × Value} (h : p ∈ (match atKey x kv 0 with | some y => kv.set y.1 (x, v) | none => kv ++ [(x, v)])) : p = (x, v) ∨ p ∈ kv := by
  cases hat : atKey x kv 0 with
  | none =>
    rw [hat] at h
    rcases List.mem_append.1 h with h | h
    · exact .inr h
    · exact .inl (by simpa using h)
  | some y =>
    rw [hat] at h
    rcases List.mem_or_eq_of_mem_set h with h | h
    · exact .inr h
    · exact .inl h
theorem look_in {kv : List (Int × Value)} {S : List Int} {x : Int} (h : kv.map (·.1) = keysOf S) (hx : x ∈ S) : ∃ y, atKey x kv 0 = some y ∧ (x, y.2) ∈ kv := by
  cases hat : atKey x kv 0 with
  | none =>
    have hn := (atKey_none x kv 0).1 hat
    have hm : x ∈ kv.map (·.1) := by rw [h]; exact mem_keysOf.2 hx
    obtain ⟨p, hp, e⟩ := List.mem_map.1 hm
    exact absurd e (hn p hp)
  | some y => exact ⟨y, rfl, List.mem_of_getElem? (atKey_get x kv y.1 y.2 hat)⟩
theorem look_out {kv : List (Int × Value)} {S : List Int} {x : Int} (h : kv.map (·.1) = keysOf S) (hx : x ∉ S) : atKey x kv 0 = none := by
  rw [atKey_none]
  intro p hp e
  have hm : x ∈ kv.map (·.1) := List.mem_map.2 ⟨p, hp, e⟩
  rw [h] at hm
  exact hx (mem_keysOf.1 hm)
end Go.Proofs.Qxb6600849aMods.Fl
