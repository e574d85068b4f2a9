/-
  The order of the pairs. Nothing here names the dump.
-/
import Derived.Test.Qxb6603070aModsMPlain
import Derived.Test.Qxb6603070aModsHeld
import Derived.WideShapes
namespace Go.Proofs.Qxb6603070aMods.M
open Go.RowKit Go.Proofs.Qxb6603070aMods.L

theorem bytesLess_eq : ∀ (x y : List UInt8), Op.bytesLess x y = decide (x < y)
  | [], [] => by simp [Op.bytesLess]
  | _ :: _, [] => by simp [Op.bytesLess]
  | [], _ :: _ => by simp [Op.bytesLess]
  | a :: x, b :: y => by
    rw [Op.bytesLess, bytesLess_eq x y]
    simp only [List.cons_lt_cons_iff]
    by_cases h1 : a < b <;> by_cases h2 : a = b <;> by_cases h3 : x < y <;> simp [h1, h2, h3]

def sless (a b : ByteArray) : Bool := Op.bytesLess a.toList b.toList
theorem sless_eq (a b : ByteArray) : sless a b = decide (a.toList < b.toList) := bytesLess_eq _ _
theorem str_ext {a b : ByteArray} (h : a.toList = b.toList) : a = b := Go.WideShapes.bytes_inj (by rw [← ByteArray.toList_eq, ← ByteArray.toList_eq]; exact h)
theorem sless_irrefl (a : ByteArray) : sless a a = false := by rw [sless_eq]; simp [List.lt_irrefl]
theorem sless_asym {a b : ByteArray} (h : sless a b = true) : sless b a = false := by
  rw [sless_eq] at h ⊢
  have h1 := of_decide_eq_true h
  exact decide_eq_false (fun h2 => List.lt_irrefl _ (List.lt_trans h1 h2))
theorem sless_tri {a b : ByteArray} (h1 : sless a b = false) (h2 : sless b a = false) : a = b := by
  rw [sless_eq] at h1 h2
  have k1 := of_decide_eq_false h1
  have k2 := of_decide_eq_false h2
  exact str_ext (List.le_antisymm (List.not_lt.1 k2) (List.not_lt.1 k1))
theorem sless_trans {a b c : ByteArray} (h1 : sless a b = true) (h2 : sless b c = true) : sless a c = true := by
  rw [sless_eq] at h1 h2 ⊢
  exact decide_eq_true (List.lt_trans (of_decide_eq_true h1) (of_decide_eq_true h2))
/-- not below: transitive. -/
theorem sless_ntrans {a b c : ByteArray} (h1 : sless b a = false) (h2 : sless c b = false) : sless c a = false := by
  cases h : sless c a with
  | false => rfl
  | true =>
    cases hb : sless a b with
    | false =>
      have e := sless_tri hb h1
      subst e
      rw [h] at h2; cases h2
    | true =>
      have := sless_trans h hb
      rw [this] at h2; cases h2

abbrev P2 := ByteArray × ByteArray
def before (n : Bool) (a b : P2) : Bool := if a.1 = b.1 then (!n && sless a.2 b.2) else sless a.1 b.1
theorem before_ord (n : Bool) : SOrd (before n) where
  refl a := by simp [before, sless_irrefl]
  asym a b h := by
    unfold before at h ⊢
    by_cases e : a.1 = b.1
    · rw [if_pos e] at h
      rw [if_pos e.symm]
      cases n with
      | true => rfl
      | false => simp at h ⊢; exact sless_asym h
    · rw [if_neg e] at h
      rw [if_neg (fun k => e k.symm)]
      exact sless_asym h
  trans a b c h1 h2 := by
    unfold before at h1 h2 ⊢
    by_cases e1 : b.1 = a.1
    · by_cases e2 : c.1 = b.1
      · rw [if_pos e1] at h1
        rw [if_pos e2] at h2
        rw [if_pos (e2.trans e1)]
        cases n with
        | true => rfl
        | false => simp at h1 h2 ⊢; exact sless_ntrans h1 h2
      · rw [if_neg e2] at h2
        rw [if_neg (fun k => e2 (k.trans e1.symm)), ← e1]
        exact h2
    · rw [if_neg e1] at h1
      by_cases e2 : c.1 = b.1
      · rw [if_neg (fun k => e1 (e2.symm.trans k)), e2]
        exact h1
      · rw [if_neg e2] at h2
        by_cases e3 : c.1 = a.1
        · exact absurd (sless_tri h1 (by rw [← e3]; exact h2)) e1
        · rw [if_neg e3]
          exact sless_ntrans h1 h2
theorem eqv_name (x a : P2) : eqv (before true) x a = decide (x.1 = a.1) := by
  unfold eqv before
  by_cases e : x.1 = a.1
  · simp [e]
  · rw [if_neg e, if_neg (fun k => e k.symm), decide_eq_false e]
    cases h1 : sless x.1 a.1 with
    | true => rfl
    | false =>
      cases h2 : sless a.1 x.1 with
      | true => rfl
      | false => exact absurd (sless_tri h1 h2) e
theorem eqv_whole (x a : P2) : eqv (before false) x a = decide (x = a) := by
  unfold eqv before
  by_cases e : x.1 = a.1
  · rw [if_pos e, if_pos e.symm]
    by_cases e2 : x.2 = a.2
    · have : x = a := Prod.ext e e2
      subst this
      simp [sless_irrefl]
    · rw [decide_eq_false (fun k => e2 (by rw [k]))]
      cases h1 : sless x.2 a.2 with
      | true => rfl
      | false =>
        cases h2 : sless a.2 x.2 with
        | true => rfl
        | false => exact absurd (sless_tri h1 h2) e2
  · rw [if_neg e, if_neg (fun k => e k.symm), decide_eq_false (fun k => e (by rw [k]))]
    cases h1 : sless x.1 a.1 with
    | true => rfl
    | false =>
      cases h2 : sless a.1 x.1 with
      | true => rfl
      | false => exact absurd (sless_tri h1 h2) e
end Go.Proofs.Qxb6603070aMods.M
