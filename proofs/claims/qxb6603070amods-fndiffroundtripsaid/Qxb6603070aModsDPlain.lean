/-
  Sets of pairs as strictly increasing rows. Nothing here names the dump.
-/
import Derived.Test.Qxb6603070aModsMOrd
namespace Go.Proofs.Qxb6603070aMods.M

/-- x comes ahead of y. -/
def lt2 (x y : P2) : Prop := before false x y = true
theorem lt2_irrefl {x : P2} : ¬ lt2 x x := fun h => by
  have := (before_ord false).refl x
  unfold lt2 at h
  rw [this] at h; cases h
theorem lt2_asym {x y : P2} (h : lt2 x y) : ¬ lt2 y x := fun k => by
  have := (before_ord false).asym x y h
  unfold lt2 at k
  rw [this] at k; cases k
theorem lt2_tri {x y : P2} (h1 : before false x y = false) (h2 : before false y x = false) : x = y := by
  have := eqv_whole x y
  unfold eqv at this
  rw [h1, h2] at this
  exact of_decide_eq_true this.symm
theorem lt2_of {x y : P2} (h : before false y x = false) (hne : x ≠ y) : lt2 x y := by
  unfold lt2
  cases hh : before false x y with
  | true => rfl
  | false => exact absurd (lt2_tri hh h) hne
/-- not after, then ahead: ahead. -/
theorem lt2_le {x y z : P2} (h1 : before false y x = false) (h2 : lt2 y z) : lt2 x z := by
  have h3 := (before_ord false).asym y z h2
  have h4 := (before_ord false).trans x y z h1 h3
  refine lt2_of h4 ?_
  intro e
  subst e
  exact absurd h2 (by unfold lt2; rw [h1]; simp)
theorem lt2_trans {x y z : P2} (h1 : lt2 x y) (h2 : lt2 y z) : lt2 x z := lt2_le ((before_ord false).asym x y h1) h2

def Strict (R : List P2) : Prop := R.Pairwise lt2
theorem Strict.nil : Strict [] := List.Pairwise.nil
theorem Strict.snoc {R : List P2} {p : P2} (h : Strict R) (hp : ∀ x ∈ R, lt2 x p) : Strict (R ++ [p]) := by
  unfold Strict
  rw [List.pairwise_append]
  refine ⟨h, List.pairwise_singleton _ _, ?_⟩
  intro a ha b hb
  simp only [List.mem_singleton] at hb
  subst hb
  exact hp a ha
/-- Two such rows of the same members are one. -/
theorem Strict.ext : ∀ {R T : List P2}, Strict R → Strict T → (∀ x, x ∈ R ↔ x ∈ T) → R = T
  | [], [], _, _, _ => rfl
  | [], y :: T, _, _, h => by have := (h y).2 (by simp); cases this
  | x :: R, [], _, _, h => by have := (h x).1 (by simp); cases this
  | x :: R, y :: T, hR, hT, h => by
    unfold Strict at hR hT
    rw [List.pairwise_cons] at hR hT
    have hxy : x = y := by
      rcases List.mem_cons.1 ((h x).1 (by simp)) with e | e
      · exact e
      · rcases List.mem_cons.1 ((h y).2 (by simp)) with e2 | e2
        · exact e2.symm
        · exact absurd (hR.1 y e2) (lt2_asym (hT.1 x e))
    subst hxy
    congr 1
    refine Strict.ext hR.2 hT.2 ?_
    intro z
    constructor
    · intro hz
      rcases List.mem_cons.1 ((h z).1 (by simp [hz])) with e | e
      · subst e
        exact absurd (hR.1 z hz) lt2_irrefl
      · exact e
    · intro hz
      rcases List.mem_cons.1 ((h z).2 (by simp [hz])) with e | e
      · subst e
        exact absurd (hT.1 z hz) lt2_irrefl
      · exact e

/-- zzDedup on its way: R is the set of the first k. -/
def SetTo (L : List P2) (k : Nat) (R : List P2) : Prop := Strict R ∧ (∀ x, x ∈ R ↔ x ∈ L.take k) ∧ R.length ≤ k
theorem SetTo.start (L : List P2) : SetTo L 0 [] := ⟨Strict.nil, fun x => by simp, Nat.le_refl _⟩
theorem mem_take {L : List P2} {k : Nat} {x : P2} (h : x ∈ L.take k) : ∃ i, i < k ∧ L[i]? = some x := by
  obtain ⟨i, hi⟩ := List.mem_iff_getElem?.1 h
  have hik : i < k := by have := (List.getElem?_eq_some_iff.1 hi).1; simp at this; omega
  rw [List.getElem?_take, if_pos hik] at hi
  exact ⟨i, hik, hi⟩
theorem take_mem {L : List P2} {k i : Nat} {x : P2} (h : L[i]? = some x) (hik : i < k) : x ∈ L.take k :=
  List.mem_iff_getElem?.2 ⟨i, by rw [List.getElem?_take, if_pos hik]; exact h⟩
theorem take_more {L : List P2} {k : Nat} {p : P2} (hp : L[k]? = some p) : L.take (k + 1) = L.take k ++ [p] := by
  obtain ⟨h1, h2⟩ := List.getElem?_eq_some_iff.1 hp
  rw [List.take_succ_eq_append_getElem h1, h2]
theorem SetTo.same {L : List P2} {k : Nat} {R : List P2} {p : P2} (h : SetTo L k R) (hp : L[k]? = some p) (hk : 0 < k) (hq : L[k - 1]? = some p) : SetTo L (k + 1) R := by
  refine ⟨h.1, fun x => ?_, by have := h.2.2; omega⟩
  rw [h.2.1 x, take_more hp, List.mem_append]
  constructor
  · exact .inl
  · rintro (hx | hx)
    · exact hx
    · simp only [List.mem_singleton] at hx
      subst hx
      exact take_mem hq (by omega)
theorem SetTo.put {L : List P2} (hs : Srt (before false) L) {k : Nat} {R : List P2} {p : P2} (h : SetTo L k R) (hp : L[k]? = some p) (hq : k = 0 ∨ ∃ q, L[k - 1]? = some q ∧ p ≠ q) : SetTo L (k + 1) (R ++ [p]) := by
  refine ⟨h.1.snoc ?_, fun x => ?_, by have := h.2.2; simp; omega⟩
  · intro x hx
    obtain ⟨i, hik, hi⟩ := mem_take ((h.2.1 x).1 hx)
    unfold Srt at hs
    rw [List.pairwise_iff_getElem] at hs
    rcases hq with h0 | ⟨q, hq, hne⟩
    · omega
    · obtain ⟨l1, e1⟩ := List.getElem?_eq_some_iff.1 hi
      obtain ⟨l2, e2⟩ := List.getElem?_eq_some_iff.1 hq
      obtain ⟨l3, e3⟩ := List.getElem?_eq_some_iff.1 hp
      have hqp : lt2 q p := lt2_of (by rw [← e2, ← e3]; exact hs _ _ l2 l3 (by omega)) hne.symm
      by_cases hi1 : i = k - 1
      · subst hi1
        rw [hq] at hi
        cases hi
        exact hqp
      · exact lt2_le (by rw [← e1, ← e2]; exact hs _ _ l1 l2 (by omega)) hqp
  · rw [List.mem_append, h.2.1 x, take_more hp, List.mem_append]

/-- The row S is the set of L. -/
def IsSet (L S : List P2) : Prop := Strict S ∧ (∀ x, x ∈ S ↔ x ∈ L) ∧ S.length ≤ L.length
theorem SetTo.fin {L : List P2} {R : List P2} (h : SetTo L L.length R) : IsSet L R := by
  refine ⟨h.1, fun x => ?_, h.2.2⟩
  rw [h.2.1 x, List.take_length]

/-! ### The search -/
def Lower (S : List P2) (x : P2) (lo : Nat) : Prop := ∀ i p, i < lo → S[i]? = some p → before false p x = true
def Upper (S : List P2) (x : P2) (hi : Nat) : Prop := ∀ i p, hi ≤ i → S[i]? = some p → before false p x = false
theorem Lower.zero (S : List P2) (x : P2) : Lower S x 0 := fun i p h => by omega
theorem Upper.all (S : List P2) (x : P2) : Upper S x S.length := fun i p h hp => by
  have := (List.getElem?_eq_some_iff.1 hp).1
  omega
theorem Lower.step {S : List P2} {x q : P2} {mid : Nat} (hs : Strict S) (hq : S[mid]? = some q) (h : before false q x = true) : Lower S x (mid + 1) := by
  intro i p hi hp
  by_cases e : i = mid
  · subst e
    rw [hq] at hp
    cases hp
    exact h
  · unfold Strict at hs
    rw [List.pairwise_iff_getElem] at hs
    obtain ⟨l1, e1⟩ := List.getElem?_eq_some_iff.1 hp
    obtain ⟨l2, e2⟩ := List.getElem?_eq_some_iff.1 hq
    exact lt2_trans (by rw [← e1, ← e2]; exact hs _ _ l1 l2 (by omega)) h
theorem Upper.step {S : List P2} {x q : P2} {mid : Nat} (hs : Strict S) (hq : S[mid]? = some q) (h : before false q x = false) : Upper S x mid := by
  intro i p hi hp
  by_cases e : i = mid
  · subst e
    rw [hq] at hp
    cases hp
    exact h
  · unfold Strict at hs
    rw [List.pairwise_iff_getElem] at hs
    obtain ⟨l1, e1⟩ := List.getElem?_eq_some_iff.1 hp
    obtain ⟨l2, e2⟩ := List.getElem?_eq_some_iff.1 hq
    cases hh : before false p x with
    | false => rfl
    | true =>
      have : lt2 q x := lt2_trans (by rw [← e1, ← e2]; exact hs _ _ l2 l1 (by omega)) hh
      unfold lt2 at this
      rw [h] at this; cases this
def inS (S : List P2) (x : P2) : Bool := S.any fun q => decide (q = x)
theorem inS_iff {S : List P2} {x : P2} : inS S x = true ↔ x ∈ S := by
  unfold inS
  rw [List.any_eq_true]
  constructor
  · rintro ⟨q, hq, e⟩
    exact of_decide_eq_true e ▸ hq
  · intro h
    exact ⟨x, h, decide_eq_true rfl⟩
theorem inS_no {S : List P2} {x : P2} (h : x ∉ S) : inS S x = false := by
  cases hh : inS S x with
  | false => rfl
  | true => exact absurd (inS_iff.1 hh) h
theorem found {S : List P2} {x q : P2} {lo : Nat} (hl : Lower S x lo) (hu : Upper S x lo) (hq : S[lo]? = some q) (hs : Strict S) : inS S x = decide (q = x) := by
  by_cases h : q = x
  · subst h
    rw [inS_iff.2 (List.mem_of_getElem? hq)]
    exact (decide_eq_true rfl).symm
  · rw [decide_eq_false h]
    refine inS_no ?_
    intro hx
    obtain ⟨i, hi⟩ := List.mem_iff_getElem?.1 hx
    by_cases h1 : i < lo
    · exact lt2_irrefl (hl i x h1 hi)
    · by_cases h2 : i = lo
      · subst h2
        rw [hq] at hi
        cases hi
        exact h rfl
      · have hqx := hu lo q (Nat.le_refl _) hq
        unfold Strict at hs
        rw [List.pairwise_iff_getElem] at hs
        obtain ⟨l1, e1⟩ := List.getElem?_eq_some_iff.1 hi
        obtain ⟨l2, e2⟩ := List.getElem?_eq_some_iff.1 hq
        have : lt2 q x := by rw [← e1, ← e2]; exact hs _ _ l2 l1 (by omega)
        unfold lt2 at this
        rw [hqx] at this; cases this
theorem notFound {S : List P2} {x : P2} {lo : Nat} (hl : Lower S x lo) (h : S.length ≤ lo) : inS S x = false := by
  refine inS_no ?_
  intro hx
  obtain ⟨i, hi⟩ := List.mem_iff_getElem?.1 hx
  have := (List.getElem?_eq_some_iff.1 hi).1
  exact lt2_irrefl (hl i x (by omega) hi)

/-! ### The law -/
def lacks (S : List P2) (p : P2) : Bool := !inS S p
def minus (L S : List P2) : List P2 := L.filter (lacks S)
theorem mem_minus {L S : List P2} {x : P2} : x ∈ minus L S ↔ x ∈ L ∧ x ∉ S := by
  unfold minus lacks
  rw [List.mem_filter]
  refine and_congr Iff.rfl ?_
  rw [← inS_iff]
  simp
theorem minus_le (L S : List P2) : (minus L S).length ≤ L.length := List.length_filter_le _ _
/-- old without dropped, plus added, is next. -/
theorem round_trip {O N D1 F S S' : List P2} (hD : IsSet (minus O N) D1) (hF : F = minus O D1 ++ minus N O) (hS : IsSet F S) (hS' : IsSet N S') : S = S' := by
  refine Strict.ext hS.1 hS'.1 ?_
  intro x
  rw [hS.2.1, hS'.2.1, hF, List.mem_append, mem_minus, mem_minus, hD.2.1, mem_minus]
  by_cases h1 : x ∈ O <;> by_cases h2 : x ∈ N <;> simp [h1, h2]
end Go.Proofs.Qxb6603070aMods.M
