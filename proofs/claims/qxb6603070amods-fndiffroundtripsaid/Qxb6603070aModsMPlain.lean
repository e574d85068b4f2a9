/-
  The plain side of the bottom-up merge sort: what one merge keeps, what one pass keeps, what the whole sort gives. Nothing here names the dump.
-/
namespace Go.Proofs.Qxb6603070aMods.M

/-- A strict weak order. -/
structure SOrd {α : Type} (lt : α → α → Bool) : Prop where
  refl : ∀ a, lt a a = false
  trans : ∀ a b c, lt b a = false → lt c b = false → lt c a = false
  asym : ∀ a b, lt a b = true → lt b a = false

section
variable {α : Type} {lt : α → α → Bool}

def eqv (lt : α → α → Bool) (x a : α) : Bool := !lt x a && !lt a x
def Same (lt : α → α → Bool) (X Y : List α) : Prop := ∀ x, X.filter (eqv lt x) = Y.filter (eqv lt x)
def Srt (lt : α → α → Bool) (L : List α) : Prop := L.Pairwise (fun a b => lt b a = false)

theorem Same.refl (X : List α) : Same lt X X := fun _ => rfl
theorem Same.symm {X Y : List α} (h : Same lt X Y) : Same lt Y X := fun x => (h x).symm
theorem Same.trans {X Y Z : List α} (h : Same lt X Y) (k : Same lt Y Z) : Same lt X Z := fun x => (h x).trans (k x)
theorem Same.append {X Y X' Y' : List α} (h : Same lt X Y) (k : Same lt X' Y') : Same lt (X ++ X') (Y ++ Y') := fun x => by rw [List.filter_append, List.filter_append, h x, k x]
theorem Same.mem (H : SOrd lt) {X Y : List α} (h : Same lt X Y) {a : α} (ha : a ∈ X) : a ∈ Y := by
  have : a ∈ X.filter (eqv lt a) := List.mem_filter.2 ⟨ha, by simp [eqv, H.refl]⟩
  rw [h a] at this
  exact (List.mem_filter.1 this).1

/-- One merge on its way: M is laid, A and B are left of the two sorted rows X and Y. -/
structure MSt (lt : α → α → Bool) (X Y M A B : List α) : Prop where
  sm : Srt lt M
  sa : Srt lt A
  sb : Srt lt B
  ma : ∀ m ∈ M, ∀ q ∈ A, lt q m = false
  mb : ∀ m ∈ M, ∀ q ∈ B, lt q m = false
  same : Same lt (M ++ (A ++ B)) (X ++ Y)

theorem MSt.start {X Y : List α} (hx : Srt lt X) (hy : Srt lt Y) : MSt lt X Y [] X Y :=
  ⟨List.Pairwise.nil, hx, hy, by simp, by simp, Same.refl _⟩

theorem srt_snoc {M : List α} {b : α} (h : Srt lt M) (hb : ∀ m ∈ M, lt b m = false) : Srt lt (M ++ [b]) := by
  unfold Srt
  rw [List.pairwise_append]
  exact ⟨h, by simp, fun a ha c hc => by simp at hc; subst hc; exact hb a ha⟩

theorem MSt.right (H : SOrd lt) {X Y M A B : List α} {a b : α} (h : MSt lt X Y M (a :: A) (b :: B)) (hlt : lt b a = true) : MSt lt X Y (M ++ [b]) (a :: A) B := by
  have hsa := List.pairwise_cons.1 h.sa
  have hsb := List.pairwise_cons.1 h.sb
  have hab : lt a b = false := H.asym _ _ hlt
  have hbA : ∀ q ∈ a :: A, lt q b = false := by
    intro q hq
    rcases List.mem_cons.1 hq with rfl | hq
    · exact hab
    · exact H.trans _ _ _ hab (hsa.1 q hq)
  refine ⟨srt_snoc h.sm (fun m hm => h.mb m hm b (by simp)), h.sa, hsb.2, ?_, ?_, ?_⟩
  · intro m hm q hq
    rcases List.mem_append.1 hm with hm | hm
    · exact h.ma m hm q hq
    · simp at hm; subst hm; exact hbA q hq
  · intro m hm q hq
    rcases List.mem_append.1 hm with hm | hm
    · exact h.mb m hm q (List.mem_cons_of_mem _ hq)
    · simp at hm; subst hm; exact hsb.1 q hq
  · refine Same.trans ?_ h.same
    intro x
    -- where b is like x, none of a :: A is
    have key : (([b] ++ ((a :: A) ++ B)).filter (eqv lt x)) = (((a :: A) ++ ([b] ++ B)).filter (eqv lt x)) := by
      rw [List.filter_append, List.filter_append, List.filter_append, List.filter_append]
      by_cases hb : eqv lt x b = true
      · have hnone : (a :: A).filter (eqv lt x) = [] := by
          rw [List.filter_eq_nil_iff]
          intro q hq he
          simp only [eqv, Bool.and_eq_true, Bool.not_eq_true'] at hb he
          -- q ≤ x ≤ b, and b < a ≤ q
          have h1 : lt b q = false := H.trans q x b he.1 hb.2
          have h2 : lt q a = false := by
            rcases List.mem_cons.1 hq with rfl | hq
            · exact H.refl _
            · exact hsa.1 q hq
          have h3 : lt b a = false := H.trans a q b h2 h1
          rw [h3] at hlt; cases hlt
        rw [hnone]; simp
      · simp only [Bool.not_eq_true] at hb
        have : [b].filter (eqv lt x) = [] := by simp [hb]
        rw [this]; simp
    have e1 : M ++ [b] ++ ((a :: A) ++ B) = M ++ ([b] ++ ((a :: A) ++ B)) := by simp
    have e2 : M ++ ((a :: A) ++ b :: B) = M ++ ((a :: A) ++ ([b] ++ B)) := by simp
    rw [e1, e2, List.filter_append, key, ← List.filter_append]

theorem MSt.left (H : SOrd lt) {X Y M A B : List α} {a : α} (h : MSt lt X Y M (a :: A) B) (hb : ∀ b B', B = b :: B' → lt b a = false) : MSt lt X Y (M ++ [a]) A B := by
  have hsa := List.pairwise_cons.1 h.sa
  refine ⟨srt_snoc h.sm (fun m hm => h.ma m hm a (by simp)), hsa.2, h.sb, ?_, ?_, ?_⟩
  · intro m hm q hq
    rcases List.mem_append.1 hm with hm | hm
    · exact h.ma m hm q (List.mem_cons_of_mem _ hq)
    · simp at hm; subst hm; exact hsa.1 q hq
  · intro m hm q hq
    rcases List.mem_append.1 hm with hm | hm
    · exact h.mb m hm q hq
    · simp at hm; subst hm
      cases B with
      | nil => cases hq
      | cons b B' =>
        have h1 := hb b B' rfl
        rcases List.mem_cons.1 hq with rfl | hq
        · exact h1
        · exact H.trans _ _ _ h1 ((List.pairwise_cons.1 h.sb).1 q hq)
  · have e : M ++ [a] ++ (A ++ B) = M ++ ((a :: A) ++ B) := by simp
    rw [e]; exact h.same

theorem MSt.rest {X Y M B : List α} {b : α} (h : MSt lt X Y M [] (b :: B)) : MSt lt X Y (M ++ [b]) [] B := by
  have hsb := List.pairwise_cons.1 h.sb
  refine ⟨srt_snoc h.sm (fun m hm => h.mb m hm b (by simp)), List.Pairwise.nil, hsb.2, by simp, ?_, ?_⟩
  · intro m hm q hq
    rcases List.mem_append.1 hm with hm | hm
    · exact h.mb m hm q (List.mem_cons_of_mem _ hq)
    · simp at hm; subst hm; exact hsb.1 q hq
  · have e : M ++ [b] ++ ([] ++ B) = M ++ ([] ++ b :: B) := by simp
    rw [e]; exact h.same

theorem MSt.fin {X Y M : List α} (h : MSt lt X Y M [] []) : Srt lt M ∧ Same lt M (X ++ Y) := ⟨h.sm, by simpa using h.same⟩
theorem MSt.len {X Y M A B : List α} (H : SOrd lt) (h : MSt lt X Y M A B) : ∀ a, a ∈ M ++ (A ++ B) ↔ a ∈ X ++ Y := fun _ => ⟨h.same.mem H, h.same.symm.mem H⟩

/-! ### Chunks -/
def chunk (T : List α) (lo w : Nat) : List α := (T.drop lo).take w
theorem chunk_two (T : List α) (lo w : Nat) : chunk T lo (2 * w) = chunk T lo w ++ chunk T (lo + w) w := by
  unfold chunk
  rw [show 2 * w = w + w from by omega, List.take_add, List.drop_drop]
theorem chunk_nil (T : List α) (lo w : Nat) (h : T.length ≤ lo) : chunk T lo w = [] := by
  unfold chunk
  rw [List.drop_of_length_le h]; simp
theorem chunk_all (T : List α) (w : Nat) (h : T.length ≤ w) : chunk T 0 w = T := by
  unfold chunk
  rw [List.drop_zero, List.take_of_length_le h]

/-- Each chunk of width w is sorted, and is the same chunk of L but for the order. -/
def Chunks (lt : α → α → Bool) (w : Nat) (L T : List α) : Prop := T.length = L.length ∧ ∀ i, Srt lt (chunk T (i * w) w) ∧ Same lt (chunk T (i * w) w) (chunk L (i * w) w)
theorem Chunks.one (L : List α) : Chunks lt 1 L L := by
  refine ⟨rfl, fun i => ⟨?_, Same.refl _⟩⟩
  unfold chunk
  match h : (L.drop (i * 1)) with
  | [] => simp [Srt]
  | a :: r => simp [Srt]
theorem Chunks.done {w : Nat} {L T : List α} (h : Chunks lt w L T) (hw : L.length ≤ w) : Srt lt T ∧ Same lt T L := by
  have := h.2 0
  rw [Nat.zero_mul, chunk_all T w (by rw [h.1]; exact hw), chunk_all L w hw] at this
  exact this
theorem Chunks.merged {w : Nat} {L T M : List α} (h : Chunks lt w L T) (i : Nat) (hM : Same lt M (chunk T (i * (2 * w)) w ++ chunk T (i * (2 * w) + w) w)) : Same lt M (chunk L (i * (2 * w)) (2 * w)) := by
  have h1 := (h.2 (2 * i)).2
  have h2 := (h.2 (2 * i + 1)).2
  have e1 : 2 * i * w = i * (2 * w) := by rw [Nat.mul_comm 2 i, Nat.mul_assoc]
  have e2 : (2 * i + 1) * w = i * (2 * w) + w := by rw [Nat.add_mul, e1, Nat.one_mul]
  rw [e1] at h1
  rw [e2] at h2
  rw [chunk_two L]
  exact hM.trans (h1.append h2)
theorem Chunks.parts {w : Nat} {L T : List α} (h : Chunks lt w L T) (i : Nat) : Srt lt (chunk T (i * (2 * w)) w) ∧ Srt lt (chunk T (i * (2 * w) + w) w) := by
  have h1 := (h.2 (2 * i)).1
  have h2 := (h.2 (2 * i + 1)).1
  have e1 : 2 * i * w = i * (2 * w) := by rw [Nat.mul_comm 2 i, Nat.mul_assoc]
  have e2 : (2 * i + 1) * w = i * (2 * w) + w := by rw [Nat.add_mul, e1, Nat.one_mul]
  rw [e1] at h1
  rw [e2] at h2
  exact ⟨h1, h2⟩

/-- A pass on its way: the chunks ahead of the i-th are done. -/
def Pass (lt : α → α → Bool) (w : Nat) (L D : List α) (i : Nat) : Prop := D.length = L.length ∧ ∀ i', i' < i → Srt lt (chunk D (i' * w) w) ∧ Same lt (chunk D (i' * w) w) (chunk L (i' * w) w)
theorem Pass.start (w : Nat) (L D : List α) (h : D.length = L.length) : Pass lt w L D 0 := ⟨h, fun i' h => by omega⟩
theorem Pass.fin {w : Nat} {L D : List α} {i : Nat} (h : Pass lt w L D i) (hi : L.length ≤ i * w) : Chunks lt w L D := by
  refine ⟨h.1, fun j => ?_⟩
  by_cases hj : j < i
  · exact h.2 j hj
  · have : i * w ≤ j * w := Nat.mul_le_mul_right w (by omega)
    rw [chunk_nil D _ _ (by rw [h.1]; omega), chunk_nil L _ _ (by omega)]
    exact ⟨List.Pairwise.nil, Same.refl _⟩
/-- The i-th chunk laid: D = P ++ M ++ Q, P what was laid ahead of it. -/
theorem Pass.step {w : Nat} {L D M Q : List α} {i : Nat} (h : Pass lt w L D i) (hw : 0 < w) (hM1 : Srt lt M) (hM2 : Same lt M (chunk L (i * w) w)) (hlen : (D.take (i * w) ++ (M ++ Q)).length = L.length) (hMw : M.length = w ∨ Q = []) (hMl : M.length ≤ w) (hi : i * w ≤ L.length) :
    Pass lt w L (D.take (i * w) ++ (M ++ Q)) (i + 1) := by
  refine ⟨hlen, fun j hj => ?_⟩
  have htl : (D.take (i * w)).length = i * w := by rw [List.length_take, h.1]; omega
  by_cases hji : j < i
  · have hle : j * w + w ≤ i * w := by
      have : (j + 1) * w ≤ i * w := Nat.mul_le_mul_right w (by omega)
      rw [Nat.add_mul, Nat.one_mul] at this
      exact this
    have e : chunk (D.take (i * w) ++ (M ++ Q)) (j * w) w = chunk D (j * w) w := by
      unfold chunk
      rw [List.drop_append_of_le_length (by omega), List.take_append_of_le_length (by rw [List.length_drop]; omega), List.drop_take, List.take_take]
      congr 1
      omega
    rw [e]
    exact h.2 j hji
  · obtain rfl : j = i := by omega
    have e : chunk (D.take (j * w) ++ (M ++ Q)) (j * w) w = M := by
      unfold chunk
      rw [List.drop_append, htl, Nat.sub_self, List.drop_zero, List.drop_of_length_le (by omega), List.nil_append]
      rcases hMw with hm | rfl
      · rw [List.take_append_of_le_length (by omega), List.take_of_length_le (by omega)]
      · rw [List.append_nil, List.take_of_length_le hMl]
    rw [e]
    exact ⟨hM1, hM2⟩
end
end Go.Proofs.Qxb6603070aMods.M
