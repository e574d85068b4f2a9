/-
  The groups of a row sorted by name. Nothing here names the dump.
-/
import Derived.Test.Qxb6603070aModsMOrd
namespace Go.Proofs.Qxb6603070aMods.M

def named (x : ByteArray) (L : List P2) : List P2 := L.filter fun p => decide (x = p.1)
theorem same_named {T L : List P2} (h : Same (before true) T L) (x : ByteArray) : named x T = named x L := by
  have := h (x, ByteArray.empty)
  have e : (fun p : P2 => decide (x = p.1)) = eqv (before true) (x, ByteArray.empty) := by
    funext p
    rw [eqv_name]
  unfold named
  rw [e]; exact this
/-- In a sorted row: what stands ahead of a name's first place has another name, and so has what stands behind its run. -/
theorem srt_le {T : List P2} (h : Srt (before true) T) {i j : Nat} {p q : P2} (hp : T[i]? = some p) (hq : T[j]? = some q) (hij : i < j) (hne : p.1 ≠ q.1) : sless p.1 q.1 = true := by
  unfold Srt at h
  rw [List.pairwise_iff_getElem] at h
  obtain ⟨l1, e1⟩ := List.getElem?_eq_some_iff.1 hp
  obtain ⟨l2, e2⟩ := List.getElem?_eq_some_iff.1 hq
  have := h i j l1 l2 hij
  rw [e1, e2] at this
  unfold before at this
  rw [if_neg (fun k => hne k.symm)] at this
  cases hh : sless p.1 q.1 with
  | true => rfl
  | false => exact absurd (sless_tri hh this) hne
/-- Equal names at i and k: all between bear that name. -/
theorem between {T : List P2} (h : Srt (before true) T) {i j k : Nat} {p q r : P2} (hp : T[i]? = some p) (hq : T[j]? = some q) (hr : T[k]? = some r) (hij : i < j) (hjk : j < k) (hpr : p.1 = r.1) : q.1 = p.1 := by
  by_cases hne : p.1 = q.1
  · exact hne.symm
  · have h1 := srt_le h hp hq hij hne
    have h2 := srt_le h hq hr hjk (fun e => hne (hpr.trans e.symm))
    rw [← hpr] at h2
    rw [sless_asym h1] at h2
    cases h2

/-- No name on both sides of place i. -/
def Bound (T : List P2) (i : Nat) : Prop := ∀ a b p q, a < i → i ≤ b → T[a]? = some p → T[b]? = some q → p.1 ≠ q.1
theorem Bound.zero (T : List P2) : Bound T 0 := fun a b p q h => by omega
theorem Bound.step {T : List P2} (h : Srt (before true) T) {i j : Nat} {p0 : P2} (hb : Bound T i) (h0 : T[i]? = some p0) (hij : i < j) (hrun : ∀ k p, i ≤ k → k < j → T[k]? = some p → p.1 = p0.1) (hend : ∀ q, T[j]? = some q → q.1 ≠ p0.1) : Bound T j := by
  intro a b p q ha hbj hp hq
  by_cases hai : a < i
  · exact hb a b p q hai (by omega) hp hq
  · have e1 := hrun a p (by omega) ha hp
    intro e
    by_cases hjb : j = b
    · subst hjb
      exact hend q hq (e.symm.trans e1)
    · obtain ⟨r, hr⟩ : ∃ r, T[j]? = some r := ⟨_, List.getElem?_eq_getElem (by have := (List.getElem?_eq_some_iff.1 hq).1; omega)⟩
      have := between h h0 hr hq hij (by omega) (e1.symm.trans e)
      exact hend r hr this
/-- The run is all that bears the name. -/
theorem run_named {T : List P2} {i j : Nat} {p0 : P2} (hb : Bound T i) (hb2 : Bound T j) (h0 : T[i]? = some p0) (hij : i < j) (hjn : j ≤ T.length) (hrun : ∀ k p, i ≤ k → k < j → T[k]? = some p → p.1 = p0.1) : (T.drop i).take (j - i) = named p0.1 T := by
  have e : T = T.take i ++ ((T.drop i).take (j - i) ++ T.drop j) := by
    have e1 : (T.drop i).drop (j - i) = T.drop j := by rw [List.drop_drop]; congr 1; omega
    rw [← e1, List.take_append_drop, List.take_append_drop]
  have n1 : named p0.1 (T.take i) = [] := by
    unfold named
    rw [List.filter_eq_nil_iff]
    intro p hp
    obtain ⟨a, ha⟩ := List.mem_iff_getElem?.1 hp
    have hai : a < i := by have := (List.getElem?_eq_some_iff.1 ha).1; simp at this; omega
    rw [List.getElem?_take, if_pos hai] at ha
    have := hb a i p p0 hai (Nat.le_refl _) ha h0
    simpa using fun k => this k.symm
  have n3 : named p0.1 (T.drop j) = [] := by
    unfold named
    rw [List.filter_eq_nil_iff]
    intro q hq
    obtain ⟨b, hbq⟩ := List.mem_iff_getElem?.1 hq
    rw [List.getElem?_drop] at hbq
    have := hb2 i (j + b) p0 q hij (by omega) h0 hbq
    simpa using this
  have n2 : named p0.1 ((T.drop i).take (j - i)) = (T.drop i).take (j - i) := by
    unfold named
    rw [List.filter_eq_self]
    intro p hp
    obtain ⟨a, ha⟩ := List.mem_iff_getElem?.1 hp
    have hai : a < j - i := by have := (List.getElem?_eq_some_iff.1 ha).1; simp at this; omega
    rw [List.getElem?_take, if_pos hai, List.getElem?_drop] at ha
    have := hrun (i + a) p (by omega) (by omega) ha
    simpa using this.symm
  have e2 : named p0.1 T = named p0.1 (T.take i) ++ (named p0.1 ((T.drop i).take (j - i)) ++ named p0.1 (T.drop j)) := by
    unfold named
    rw [← List.filter_append, ← List.filter_append, ← e]
  rw [e2, n1, n2, n3]
  simp
end Go.Proofs.Qxb6603070aMods.M
