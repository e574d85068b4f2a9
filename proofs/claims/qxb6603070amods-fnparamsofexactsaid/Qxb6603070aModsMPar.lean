import Derived.Test.Qxb6603070aModsMWp
namespace Go.Proofs.Qxb6603070aMods.M
open Go.RowKit Go.Proofs.Qxb6603070aMods.L

/-! ### The distinct names -/
def kstep (acc : List ByteArray) (x : ByteArray) : List ByteArray := if acc.any (fun y => decide (y = x)) = true then acc else acc ++ [x]
theorem any_mem {acc : List ByteArray} {x : ByteArray} : acc.any (fun y => decide (y = x)) = true ↔ x ∈ acc := by
  rw [List.any_eq_true]
  constructor
  · rintro ⟨y, hy, e⟩
    have := of_decide_eq_true e
    exact this ▸ hy
  · intro h
    exact ⟨x, h, by simp⟩
theorem kstep_in {acc : List ByteArray} {x : ByteArray} (h : x ∈ acc) : kstep acc x = acc := by
  unfold kstep
  rw [if_pos (any_mem.2 h)]
theorem kstep_out {acc : List ByteArray} {x : ByteArray} (h : x ∉ acc) : kstep acc x = acc ++ [x] := by
  unfold kstep
  rw [if_neg (fun k => h (any_mem.1 k))]
def keysOf (S : List ByteArray) : List ByteArray := S.foldl kstep []
theorem keysOf_snoc (S : List ByteArray) (x : ByteArray) : keysOf (S ++ [x]) = kstep (keysOf S) x := by simp [keysOf]
theorem mem_fold (S : List ByteArray) : ∀ (acc : List ByteArray) (x : ByteArray), x ∈ S.foldl kstep acc ↔ x ∈ acc ∨ x ∈ S := by
  induction S with
  | nil => intro acc x; simp
  | cons y S ih =>
    intro acc x
    rw [List.foldl_cons, ih]
    by_cases hy : y ∈ acc
    · rw [kstep_in hy]
      constructor
      · rintro (h | h)
        · exact .inl h
        · exact .inr (List.mem_cons_of_mem _ h)
      · rintro (h | h)
        · exact .inl h
        · rcases List.mem_cons.1 h with rfl | h
          · exact .inl hy
          · exact .inr h
    · rw [kstep_out hy]
      simp [or_assoc]
theorem mem_keysOf {S : List ByteArray} {x : ByteArray} : x ∈ keysOf S ↔ x ∈ S := by
  unfold keysOf
  rw [mem_fold]
  simp
theorem nodup_keysOf (S : List ByteArray) : (keysOf S).Nodup := by
  have key : ∀ (S acc : List ByteArray), acc.Nodup → (S.foldl kstep acc).Nodup := by
    intro S
    induction S with
    | nil => intro acc h; exact h
    | cons y S ih =>
      intro acc h
      rw [List.foldl_cons]
      refine ih _ ?_
      by_cases hy : y ∈ acc
      · rw [kstep_in hy]; exact h
      · rw [kstep_out hy, List.nodup_append]
        refine ⟨h, by simp, ?_⟩
        intro a ha b hb
        simp at hb
        subst hb
        intro e
        exact hy (e ▸ ha)
  exact key S [] List.nodup_nil
theorem keysOf_same {S T : List ByteArray} (h : ∀ x, x ∈ S ↔ x ∈ T) : (keysOf S).length = (keysOf T).length :=
  ((List.perm_ext_iff_of_nodup (nodup_keysOf S) (nodup_keysOf T)).2 (fun a => by rw [mem_keysOf, mem_keysOf]; exact h a)).length_eq
theorem keysOf_le (S : List ByteArray) : (keysOf S).length ≤ S.length := (nodup_keysOf S).length_le_of_subset (fun _ h => mem_keysOf.1 h)
theorem keysOf_new {S : List ByteArray} {x : ByteArray} (h : x ∉ S) : (keysOf (S ++ [x])).length = (keysOf S).length + 1 := by
  rw [keysOf_snoc, kstep_out (fun h2 => h (mem_keysOf.1 h2))]
  simp
theorem put_keys {kv : List (ByteArray × Value)} {S : List ByteArray} {x : ByteArray} {v : Value} (h : kv.map (·.1) = keysOf S) :
    ((match atKey x kv 0 with | some y => kv.set y.1 (x, v) | none => kv ++ [(x, v)] : List (ByteArray × Value)).map (fun q : ByteArray × Value => q.1)) = keysOf (S ++ [x]) := by
  rw [keysOf_snoc]
  cases hat : atKey x kv 0 with
  | none =>
    have hn := (atKey_none x kv 0).1 hat
    have : x ∉ keysOf S := by
      rw [← h]
      intro hm
      obtain ⟨p, hp, e⟩ := List.mem_map.1 hm
      exact hn p hp e
    rw [kstep_out this, ← h]
    simp
  | some y =>
    have hg := atKey_get x kv y.1 y.2 hat
    have : x ∈ keysOf S := by
      rw [← h]
      exact List.mem_map.2 ⟨_, List.mem_of_getElem? hg, rfl⟩
    rw [kstep_in this, ← h]
    simp only [List.map_set]
    obtain ⟨l1, e1⟩ := List.getElem?_eq_some_iff.1 hg
    have hl : y.1 < (kv.map (·.1)).length := by simpa using l1
    have he : (kv.map (·.1))[y.1] = x := by simp [e1]
    conv => lhs; arg 3; rw [← he]
    exact List.set_getElem_self hl
end Go.Proofs.Qxb6603070aMods.M
