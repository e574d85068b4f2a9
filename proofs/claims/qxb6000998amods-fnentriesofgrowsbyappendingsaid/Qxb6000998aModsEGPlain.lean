import Derived.Test.Qxb6000998aModsEKPlain
namespace Go.Proofs.Qxb6000998aMods.E
open Go.RowKit Go.Proofs.Qxb6000998aMods.L

/-- The owners that are already there. -/
def had (acc : List (Int × Int)) (o : Int) : Bool := acc.any fun q => decide (q.2 = o)

theorem had_step (acc : List (Int × Int)) (p : Int × Int) (o : Int) : had (step acc p) o = (had acc o || decide (p.2 = o)) := by
  cases h : acc.any (fun q => decide (q.2 = p.2)) with
  | true =>
    rw [step_hit h]
    cases hp : decide (p.2 = o) with
    | false => simp
    | true =>
      have e : p.2 = o := of_decide_eq_true hp
      rw [e] at h
      unfold had
      rw [h]; rfl
  | false =>
    rw [step_miss h]
    unfold had
    simp [List.any_append]
theorem had_foldl (M : List (Int × Int)) : ∀ (acc : List (Int × Int)) (o : Int), had (M.foldl step acc) o = (had acc o || M.any fun p => decide (p.2 = o)) := by
  induction M with
  | nil => intro acc o; simp
  | cons p M ih => intro acc o; rw [List.foldl_cons, ih, had_step, List.any_cons, Bool.or_assoc]
theorem had_dd (M : List (Int × Int)) (o : Int) : had (dd M) o = M.any fun p => decide (p.2 = o) := by
  unfold dd
  rw [had_foldl]
  simp [had]

/-- What a further row adds: its own first entries, without the owners that were there. -/
theorem dd_more (L M : List (Int × Int)) : dd (L ++ M) = dd L ++ (dd M).filter (fun p => !had (dd L) p.2) := by
  have key : ∀ (n : Nat) (N : List (Int × Int)) (acc : List (Int × Int)), N.length = n → N.foldl step acc = acc ++ (dd N).filter (fun p => !had acc p.2) := by
    intro n
    induction n with
    | zero =>
      intro N acc h
      have : N = [] := List.eq_nil_of_length_eq_zero h
      subst this
      simp [dd]
    | succ n ih0 =>
      intro N acc h
      rcases List.eq_nil_or_concat N with rfl | ⟨N, p, rfl⟩
      · simp at h
      · have ih := ih0 N acc (by simpa using h)
        rw [List.concat_eq_append, List.foldl_append, List.foldl_cons, List.foldl_nil, ih, dd_snoc]
        cases hN : (dd N).any (fun q => decide (q.2 = p.2)) with
        | true =>
          rw [step_hit hN]
          refine step_hit ?_
          cases ha : had acc p.2 with
          | true =>
            unfold had at ha
            rw [List.any_append, ha]; rfl
          | false =>
            obtain ⟨q, hq, he⟩ := List.any_eq_true.1 hN
            have he' : q.2 = p.2 := of_decide_eq_true he
            refine List.any_eq_true.2 ⟨q, List.mem_append_right _ (List.mem_filter.2 ⟨hq, by rw [he', ha]; rfl⟩), he⟩
        | false =>
          rw [step_miss hN, List.filter_append]
          cases ha : had acc p.2 with
          | true =>
            have : acc.any (fun q => decide (q.2 = p.2)) = true := ha
            rw [step_hit (by rw [List.any_append, this]; rfl)]
            simp [ha]
          | false =>
            have h1 : acc.any (fun q => decide (q.2 = p.2)) = false := ha
            rw [step_miss ?_]
            · simp [ha]
            · rw [List.any_append, h1, Bool.false_or]
              cases h2 : ((dd N).filter fun p => !had acc p.2).any (fun q => decide (q.2 = p.2)) with
              | false => rfl
              | true =>
                obtain ⟨q, hq, he⟩ := List.any_eq_true.1 h2
                have : (dd N).any (fun q => decide (q.2 = p.2)) = true := List.any_eq_true.2 ⟨q, (List.mem_filter.1 hq).1, he⟩
                rw [this] at hN; cases hN
  rw [dd_append, key _ M (dd L) rfl]

theorem dd_map (f : Int × Int → Int × Int) (hf : ∀ p, (f p).2 = p.2) (M : List (Int × Int)) : dd (M.map f) = (dd M).map f := by
  have key : ∀ (M acc : List (Int × Int)), (M.map f).foldl step (acc.map f) = (M.foldl step acc).map f := by
    intro M
    induction M with
    | nil => intro acc; rfl
    | cons p M ih =>
      intro acc
      rw [List.map_cons, List.foldl_cons, List.foldl_cons]
      have ha : (acc.map f).any (fun q => decide (q.2 = (f p).2)) = acc.any (fun q => decide (q.2 = p.2)) := by
        rw [List.any_map]
        simp [Function.comp_def, hf]
      cases h : acc.any (fun q => decide (q.2 = p.2)) with
      | true => rw [step_hit h, step_hit (ha.trans h)]; exact ih acc
      | false =>
        rw [step_miss h, step_miss (ha.trans h), ← ih (acc ++ [p])]
        simp
  exact key M []

/-- The first places of the owners of a row. -/
def fx (E : List Int) : List (Int × Int) := dd (rowE 0 E)
def up (n : Nat) (p : Int × Int) : Int × Int := ((n : Int) * 4294967296 + p.1, p.2)
theorem rowE_up (n : Nat) (E : List Int) : rowE n E = (rowE 0 E).map (up n) := by
  apply List.ext_getElem?
  intro j
  rw [List.getElem?_map, rowE_get, rowE_get]
  cases E[j]? with
  | none => rfl
  | some o => simp [up, tag]

theorem any_resE (O : List (List Int)) (o : Int) : ((resE O).flatten.any fun p => decide (p.2 = o)) = decide (o ∈ O.flatten) := by
  rw [Bool.eq_iff_iff]
  simp only [List.any_eq_true, decide_eq_true_eq]
  constructor
  · rintro ⟨p, hp, rfl⟩
    obtain ⟨i, j, row, o, h1, h2, rfl⟩ := mem_flatten_resE hp
    exact List.mem_flatten.2 ⟨row, List.mem_of_getElem? h1, List.mem_of_getElem? h2⟩
  · intro h
    obtain ⟨row, hr, ho⟩ := List.mem_flatten.1 h
    obtain ⟨i, hi⟩ := List.mem_iff_getElem?.1 hr
    obtain ⟨j, hj⟩ := List.mem_iff_getElem?.1 ho
    refine ⟨(tag i j, o), List.mem_flatten.2 ⟨rowE i row, ?_, ?_⟩, rfl⟩
    · exact List.mem_of_getElem? (i := i) (by rw [resE_get, hi]; rfl)
    · exact List.mem_of_getElem? (i := j) (by rw [rowE_get, hj]; rfl)

/-- The new ones among the extra row's owners. -/
def newOf (S : List Int) (L : List (Int × Int)) : List (Int × Int) := L.filter fun p => !decide (p.2 ∈ S)
theorem grown_all (O : List (List Int)) (E : List Int) : dd (resE (O ++ [E])).flatten = dd (resE O).flatten ++ (newOf O.flatten (fx E)).map (up O.length) := by
  rw [resE_snoc, List.flatten_append, List.flatten_singleton, dd_more, rowE_up, dd_map (up O.length) (fun _ => rfl)]
  congr 1
  unfold newOf fx
  rw [List.filter_map]
  congr 1
  apply List.filter_congr
  intro p _
  simp only [Function.comp_def, up]
  rw [had_dd, any_resE]

theorem fx_sub (E : List Int) : List.Sublist (fx E) (rowE 0 E) := dd_sub _
theorem fx_mem {E : List Int} {p : Int × Int} (h : p ∈ fx E) : ∃ t : Nat, p.1 = (t : Int) ∧ E[t]? = some p.2 := by
  have hm := (fx_sub E).subset h
  obtain ⟨j, hj⟩ := List.mem_iff_getElem?.1 hm
  rw [rowE_get] at hj
  cases ho : E[j]? with
  | none => simp [ho] at hj
  | some o =>
    simp [ho] at hj
    subst hj
    exact ⟨j, by simp [tag], ho⟩

/-- The map 'firstExtra'. -/
def fstI (acc : List (Int × Int)) : List (Int × Value) := acc.map fun p => (p.2, .int .i64 p.1)
theorem fstI_snoc (acc : List (Int × Int)) (p : Int × Int) : fstI (acc ++ [p]) = fstI acc ++ [(p.2, .int .i64 p.1)] := by simp [fstI]
theorem fstI_some {acc : List (Int × Int)} {o : Int} (h : acc.any (fun q => decide (q.2 = o)) = true) : ∃ T, atKey o (fstI acc) 0 = some T := by
  obtain ⟨q, hq, hqo⟩ := List.any_eq_true.1 h
  cases hk : atKey o (fstI acc) 0 with
  | none =>
    rw [atKey_none] at hk
    exact absurd (by simpa using hqo) (hk (q.2, .int .i64 q.1) (List.mem_map.2 ⟨q, hq, rfl⟩))
  | some y => exact ⟨y, rfl⟩
theorem fstI_none {acc : List (Int × Int)} {o : Int} (h : acc.any (fun q => decide (q.2 = o)) = false) : atKey o (fstI acc) 0 = none := by
  rw [atKey_none]
  intro p hp e
  obtain ⟨q, hq, rfl⟩ := List.mem_map.1 hp
  have : acc.any (fun q => decide (q.2 = o)) = true := List.any_eq_true.2 ⟨q, hq, by simpa using e⟩
  rw [this] at h; cases h
theorem fstI_at (L : List (Int × Int)) (T o : Int) (h : (T, o) ∈ dd L) : ((atKey o (fstI (dd L)) 0).map (·.2)) = some (.int .i64 T) := by
  obtain ⟨k, hk⟩ := List.mem_iff_getElem?.1 h
  rw [atKey_at _ k o (.int .i64 T) ?_ (by simp [fstI, hk])]
  · rfl
  · unfold fstI
    rw [List.pairwise_map]
    exact dd_apart L

/-- The map 'seenOld' holds the owners S. -/
def Seen (kv : List (Int × Value)) (S : List Int) : Prop := ∀ o, ((atKey o kv 0).map (·.2)) = if o ∈ S then some (.bool true) else none
theorem Seen.look {kv : List (Int × Value)} {S : List Int} (h : Seen kv S) (o : Int) : ((atKey o kv 0).map (·.2)).getD (.bool false) = .bool (decide (o ∈ S)) := by
  rw [h o]
  by_cases ho : o ∈ S <;> simp [ho]

theorem atKey_append (o : Int) : ∀ (kv : List (Int × Value)) (x : Int) (v : Value), ((atKey o (kv ++ [(x, v)]) 0).map (·.2)) = ((atKey o kv 0).map (·.2)).or (if x = o then some v else none)
  | [], x, v => by
    unfold atKey
    by_cases h : x = o
    · simp [h]
    · have h2 : ¬ o = x := fun e => h e.symm
      simp [h, h2, atKey]
  | p :: kv, x, v => by
    have ih := atKey_append o kv x v
    simp only [List.cons_append, atKey]
    by_cases h : p.1 = o
    · simp [h]
    · have h2 : ¬ o = p.1 := fun e => h e.symm
      simp only [h2, if_false]
      rw [atKey_shift o (kv ++ [(x, v)]) (0 + 1), atKey_shift o kv (0 + 1)]
      simpa [Option.map_map, Function.comp_def] using ih
theorem atKey_setTrue : ∀ (kv : List (Int × Value)) (i : Nat) (x : Int) (v : Value), kv[i]? = some (x, v) → ∀ o', atKey o' (kv.set i (x, v)) 0 = atKey o' kv 0 := by
  intro kv i x v h o'
  have hk := (List.getElem?_eq_some_iff.1 h)
  obtain ⟨hl, he⟩ := hk
  rw [← he, List.set_getElem_self]

theorem Seen.put {kv : List (Int × Value)} {S : List Int} (h : Seen kv S) (x : Int) : Seen (match atKey x kv 0 with | some y => kv.set y.1 (x, .bool true) | none => kv ++ [(x, .bool true)]) (S ++ [x]) := by
  intro o
  have hx := h x
  cases hat : atKey x kv 0 with
  | none =>
    simp only
    rw [atKey_append, h o]
    by_cases ho : o ∈ S
    · simp [ho]
    · by_cases he : x = o
      · simp [he, ho]
      · have : ¬ o = x := fun e => he e.symm
        simp [ho, he, this]
  | some y =>
    rw [hat] at hx
    have hxS : x ∈ S := by
      by_cases hxS : x ∈ S
      · exact hxS
      · simp [hxS] at hx
    have hy : y.2 = .bool true := by simpa [hxS] using hx
    have hg : kv[y.1]? = some (x, .bool true) := by
      have := atKey_get x kv y.1 y.2 hat
      rwa [hy] at this
    simp only
    rw [atKey_setTrue kv y.1 x _ hg o, h o]
    have : o ∈ S ++ [x] ↔ o ∈ S := by
      simp only [List.mem_append, List.mem_singleton]
      exact ⟨fun h => h.elim id (fun e => by rw [e]; exact hxS), .inl⟩
    simp only [this]
end Go.Proofs.Qxb6000998aMods.E
