import Derived.Test.Qxb6603070aModsMSeg
namespace Go.Proofs.Qxb6603070aMods.M
open Go.RowKit Go.Proofs.Qxb6603070aMods.L

/-- The merge on its way, in numbers. -/
def MRel (nm : Bool) (T P0 : List P2) (lo mid hi n : Nat) (X Y : List P2) (ii jj kk : Nat) (M Q : List P2) : Prop :=
  lo ≤ ii ∧ ii ≤ mid ∧ mid ≤ jj ∧ jj ≤ hi ∧ kk = lo + M.length ∧ M.length = (ii - lo) + (jj - mid) ∧ (P0 ++ (M ++ Q)).length = n ∧ MSt (before nm) X Y M (seg T ii mid) (seg T jj hi)

theorem rel_start {nm : Bool} {L T D : List P2} {wd i lo mid hi n : Nat} (hCh : Chunks (before nm) wd L T) (hlo : lo = i * (2 * wd)) (hTl : T.length = n) (hD : D.length = n) (hlt : lo < n)
    (hmid : mid = lo + wd ∨ (mid = n ∧ n ≤ lo + wd)) (hhi : hi = lo + 2 * wd ∨ (hi = n ∧ n ≤ lo + 2 * wd)) (hmn : mid ≤ n) (hhn : hi ≤ n) :
    MRel nm T (D.take lo) lo mid hi n (chunk T lo wd) (chunk T (lo + wd) wd) lo mid lo [] (D.drop lo) := by
  have hp := hCh.parts i
  rw [← hlo] at hp
  have hlm : lo ≤ mid := by rcases hmid with h | h <;> omega
  have hmh : mid ≤ hi := by rcases hmid with h | h <;> rcases hhi with h' | h' <;> omega
  have e1 : seg T lo mid = chunk T lo wd := seg_chunk T lo wd mid (by rcases hmid with h | h; exact .inl h; exact .inr ⟨by rw [hTl]; exact h.1, by omega⟩)
  have e2 : seg T mid hi = chunk T (lo + wd) wd := by
    rcases hmid with h | h
    · rw [← h]
      exact seg_chunk T mid wd hi (by rcases hhi with h' | h'; exact .inl (by omega); exact .inr ⟨by rw [hTl]; exact h'.1, by omega⟩)
    · rw [seg_nil (by omega), chunk_nil T _ _ (by omega)]
  refine ⟨Nat.le_refl _, hlm, Nat.le_refl _, hmh, by simp, by simp, ?_, ?_⟩
  · rw [List.nil_append, List.take_append_drop]; exact hD
  · rw [e1, e2]; exact MSt.start hp.1 hp.2

theorem rel_left {nm : Bool} {T P0 X Y M Q' : List P2} {lo mid hi n ii jj kk : Nat} {q x : P2} (h : MRel nm T P0 lo mid hi n X Y ii jj kk M (q :: Q')) (hx : T[ii]? = some x) (hi' : ii < mid) (hb : ∀ y, jj < hi → T[jj]? = some y → before nm y x = false) (hT : hi ≤ T.length) :
    MRel nm T P0 lo mid hi n X Y (ii + 1) jj (kk + 1) (M ++ [x]) Q' := by
  obtain ⟨h1, h2, h3, h4, h5, h6, h7, h8⟩ := h
  refine ⟨by omega, by omega, h3, h4, by simp; omega, by simp; omega, by simpa using h7, ?_⟩
  rw [seg_cons hx hi'] at h8
  refine MSt.left (before_ord nm) h8 ?_
  intro b B' hB
  by_cases hj : jj < hi
  · obtain ⟨y, hy⟩ : ∃ y, T[jj]? = some y := ⟨_, List.getElem?_eq_getElem (by omega)⟩
    rw [seg_cons hy hj] at hB
    cases hB
    exact hb _ hj hy
  · rw [seg_nil (by omega)] at hB; cases hB

theorem rel_right {nm : Bool} {T P0 X Y M Q' : List P2} {lo mid hi n ii jj kk : Nat} {q y : P2} (h : MRel nm T P0 lo mid hi n X Y ii jj kk M (q :: Q')) (hy : T[jj]? = some y) (hj : jj < hi) (hb : ii = mid ∨ ∃ x, ii < mid ∧ T[ii]? = some x ∧ before nm y x = true) :
    MRel nm T P0 lo mid hi n X Y ii (jj + 1) (kk + 1) (M ++ [y]) Q' := by
  obtain ⟨h1, h2, h3, h4, h5, h6, h7, h8⟩ := h
  refine ⟨h1, h2, by omega, by omega, by simp; omega, by simp; omega, by simpa using h7, ?_⟩
  rw [seg_cons hy hj] at h8
  rcases hb with rfl | ⟨x, hi', hx, hlt⟩
  · rw [seg_nil (Nat.le_refl _)] at h8 ⊢
    exact MSt.rest h8
  · rw [seg_cons hx hi'] at h8 ⊢
    exact MSt.right (before_ord nm) h8 hlt

theorem rel_fin {nm : Bool} {L T D M Q : List P2} {wd i lo mid hi n kk : Nat} (hCh : Chunks (before nm) wd L T) (hP : Pass (before nm) (2 * wd) L D i) (hlo : lo = i * (2 * wd)) (hn : n = L.length) (hw : 1 ≤ wd) (hlt : lo < n)
    (hhi : hi = lo + 2 * wd ∨ (hi = n ∧ n ≤ lo + 2 * wd)) (h : MRel nm T (D.take lo) lo mid hi n (chunk T lo wd) (chunk T (lo + wd) wd) mid hi kk M Q) :
    Pass (before nm) (2 * wd) L (D.take lo ++ (M ++ Q)) (i + 1) := by
  obtain ⟨h1, h2, h3, h4, h5, h6, h7, h8⟩ := h
  rw [seg_nil (Nat.le_refl _), seg_nil (Nat.le_refl _)] at h8
  obtain ⟨hs, hsame⟩ := h8.fin
  have hDl : D.length = n := by rw [hP.1, hn]
  have htl : (D.take lo).length = lo := by rw [List.length_take]; omega
  have hml : M.length = hi - lo := by omega
  have hQl : M.length + Q.length = n - lo := by
    rw [List.length_append, List.length_append, htl] at h7; omega
  rw [hlo] at hsame ⊢
  refine Pass.step hP (by omega) hs (hCh.merged i hsame) (by rw [← hlo, h7, hn]) ?_ (by rcases hhi with h | h <;> omega) (by rw [← hlo]; omega)
  rcases hhi with h | h
  · exact .inl (by omega)
  · exact .inr (List.eq_nil_of_length_eq_zero (by omega))
theorem rel_room {nm : Bool} {T P0 X Y M Q : List P2} {lo mid hi n ii jj kk : Nat} (h : MRel nm T P0 lo mid hi n X Y ii jj kk M Q) (hP : P0.length = lo) (hhn : hi ≤ n) (hr : ii < mid ∨ jj < hi) :
    kk < n ∧ ∃ q Q', Q = q :: Q' ∧ ∀ x, (P0 ++ (M ++ Q)).set kk x = P0 ++ ((M ++ [x]) ++ Q') := by
  obtain ⟨h1, h2, h3, h4, h5, h6, h7, h8⟩ := h
  have hl : (P0 ++ (M ++ Q)).length = lo + (M.length + Q.length) := by rw [List.length_append, List.length_append, hP]
  have hQ : 0 < Q.length := by omega
  refine ⟨by omega, ?_⟩
  cases Q with
  | nil => simp at hQ
  | cons q Q' =>
    refine ⟨q, Q', rfl, fun x => ?_⟩
    obtain ⟨q2, Q2, e, hs⟩ := lay_one P0 M (q :: Q') x kk (by omega) hQ
    cases e
    exact hs
end Go.Proofs.Qxb6603070aMods.M
