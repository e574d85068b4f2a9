import Derived.Test.Qxb6603070aModsMParF
namespace Go.Proofs.Qxb6603070aMods.M
open Go.RowKit Go.Proofs.Qxb6603070aMods.L

theorem keysOf_more (R : List ByteArray) : ∀ (S : List ByteArray), (∀ y ∈ R, y ∈ S) → keysOf (S ++ R) = keysOf S := by
  induction R with
  | nil => intro S _; rw [List.append_nil]
  | cons y R ih =>
    intro S h
    rw [show S ++ y :: R = (S ++ [y]) ++ R from by simp, ih _ (fun z hz => List.mem_append_left _ (h z (List.mem_cons_of_mem _ hz))), keysOf_snoc, kstep_in (mem_keysOf.2 (h y List.mem_cons_self))]
theorem keysOf_run {S R : List ByteArray} {x : ByteArray} (hx : x ∉ S) (hR : ∀ y ∈ R, y = x) (h0 : R ≠ []) : (keysOf (S ++ R)).length = (keysOf S).length + 1 := by
  cases R with
  | nil => exact absurd rfl h0
  | cons y R =>
    have := hR y List.mem_cons_self
    subst this
    rw [show S ++ y :: R = (S ++ [y]) ++ R from by simp, keysOf_more R _ (fun z hz => by rw [hR z (List.mem_cons_of_mem _ hz)]; simp), keysOf_new hx]
/-- One group more. -/
theorem keys_group {T : List P2} {i j : Nat} {p0 : P2} (hb : Bound T i) (h0 : T[i]? = some p0) (hij : i < j) (hjn : j ≤ T.length) (hrun : ∀ k p, i ≤ k → k < j → T[k]? = some p → p.1 = p0.1) :
    (keysOf ((T.take j).map (·.1))).length = (keysOf ((T.take i).map (·.1))).length + 1 := by
  have e : T.take j = T.take i ++ (T.drop i).take (j - i) := by
    rw [← List.take_add]
    congr 1
    omega
  rw [e, List.map_append]
  refine keysOf_run (x := p0.1) ?_ ?_ ?_
  · intro hm
    obtain ⟨p, hp, e1⟩ := List.mem_map.1 hm
    obtain ⟨a, ha⟩ := List.mem_iff_getElem?.1 hp
    have hai : a < i := by have := (List.getElem?_eq_some_iff.1 ha).1; simp at this; omega
    rw [List.getElem?_take, if_pos hai] at ha
    exact hb a i p p0 hai (Nat.le_refl _) ha h0 e1
  · intro y hy
    obtain ⟨p, hp, rfl⟩ := List.mem_map.1 hy
    obtain ⟨a, ha⟩ := List.mem_iff_getElem?.1 hp
    have hai : a < j - i := by have := (List.getElem?_eq_some_iff.1 ha).1; simp at this; omega
    rw [List.getElem?_take, if_pos hai, List.getElem?_drop] at ha
    exact hrun (i + a) p (by omega) (by omega) ha
  · intro h
    have := congrArg List.length h
    simp at this
    omega
theorem mem_named {L : List P2} {x : ByteArray} : x ∈ L.map (·.1) ↔ named x L ≠ [] := by
  constructor
  · intro h
    obtain ⟨p, M, e, _⟩ := named_head h
    rw [e]; simp
  · intro h
    by_cases hx : x ∈ L.map (·.1)
    · exact hx
    · exact absurd (named_none hx) h
theorem groups_all {T W : List P2} (h : Same (before true) T W) : (keysOf (T.map (·.1))).length = (keysOf (W.map (·.1))).length :=
  keysOf_same (fun x => by rw [mem_named, mem_named, same_named h])
/-- What lies under a name. -/
theorem Params.look {B : Nat} {w : World} {v : Value} {W : List P2} (h : Params B w v W) {x : ByteArray} (hx : x ∈ W.map (·.1)) : ∃ m gl cl, v = .map (some m) ∧
    ∀ w', Below w.heap.size w w' → (Instr.lookup 45 (.map (some m)) (.string x) false).run Trym.prog w' = .ok (.slice (some ⟨gl, 0, none⟩) (named x W).length cl) w' ∧ w'.rangeAt gl 0 (flatP (named x W)) := by
  rcases h with ⟨_, h0⟩ | ⟨m, kv, hv, hm, hW, hM, hk, ho⟩
  · rw [h0] at hx; cases hx
  · have hin : x ∈ kv.map (fun q : ByteArray × Value => q.1) := hk ▸ mem_keysOf.2 hx
    cases hat : atKey x kv 0 with
    | none =>
      obtain ⟨q, hq, e⟩ := List.mem_map.1 hin
      exact absurd e ((atKey_none x kv 0).1 hat q hq)
    | some y =>
      have hown := ho (x, y.2) (List.mem_of_getElem? (atKey_get x kv y.1 y.2 hat))
      obtain ⟨p, M, e, _⟩ := named_head hx
      have hne : (named x W).length = M.length + 1 := by rw [e]; rfl
      rcases hown.2 with ⟨h1, h2⟩ | ⟨gl, cl, cur, hv2, _⟩
      · simp only at h2; rw [hne] at h2; cases h2
      · refine ⟨m, gl, cl, hv, fun w' hb => ⟨?_, ?_⟩⟩
        · have hr := run_lookupB (w := w') (K := KS) Trym.underlying45 keys9 (hM.all hb) x (.slice none 0 0) zero29 false
          rw [hat] at hr
          simp only [Option.map_some, Option.getD_some] at hr
          rw [show y.2 = _ from hv2] at hr
          simpa [KS] using hr
        · have h3 := (own_all hown hb).cells (g := gl) (by rw [hv2]; rfl)
          intro j u hu
          have := h3 j u hu
          rwa [Addr.add_lit] at this
theorem flatP_range {w : World} {g off : Nat} {T : List P2} (h : w.rangeAt g off (flatP T)) {k : Nat} {p : P2} (hp : T[k]? = some p) : w.rangeAt g (off + k * 2) (pc p) := by
  intro j u hu
  match j, hu with
  | 0, hu =>
    simp [pc] at hu
    subst hu
    exact h (k * 2) _ (flatP_get0 T k p hp)
  | 1, hu =>
    simp [pc] at hu
    subst hu
    have := h (k * 2 + 1) _ (flatP_get1 T k p hp)
    rwa [← Nat.add_assoc] at this
  | j + 2, hu => simp [pc] at hu
/-- A row that has grown by append, to be read. -/
theorem own_slice {w : World} {B : Nat} {v : Value} {n : Nat} {W : List P2} (h : w.ownsRow B 43 2 v n (flatP W)) (hn : n = W.length) : ∃ a c, v = .slice a n c ∧ Src w a c W := by
  rcases h.2 with ⟨rfl, h0⟩ | ⟨g, cap, cur, rfl, _⟩
  · have : W = [] := List.eq_nil_of_length_eq_zero (by omega)
    exact ⟨none, 0, by rw [h0], .inl ⟨rfl, this, rfl⟩⟩
  · refine ⟨_, cap, rfl, .inr ⟨g, rfl, fun w' hb => ?_⟩⟩
    intro j u hu
    have := (own_all h hb).cells (g := g) rfl j u hu
    rwa [Addr.add_lit] at this
end Go.Proofs.Qxb6603070aMods.M
