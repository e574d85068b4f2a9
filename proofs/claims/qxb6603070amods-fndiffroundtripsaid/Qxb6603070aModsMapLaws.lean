/-
  Laws of the walk over a map that the call itself makes, said by the list of its entries in the order in which they came. Nothing here names the dump.
-/
import Derived.Test.Qxb6603070aModsLaws
import Derived.Maps.OwnOps
namespace Go.Proofs.Qxb6603070aMods.L
open Go.RowKit

/-- Block m is a map whose entries are kv, in the order in which they came; K says how a key is written. -/
def MapB {α : Type} (w : World) (m : Nat) (K : α → Value) (kv : List (α × Value)) : Prop :=
  ∃ (es : Array MapEntry) (clock : Nat), w.heap[m]? = some (.map es clock) ∧ es.toList.map (fun e => (e.key, e.val)) = kv.map (fun p => (K p.1, p.2))

/-- Where the key stands, and what is at it. -/
def atKey {α : Type} [DecidableEq α] (a : α) : List (α × Value) → Nat → Option (Nat × Value)
  | [], _ => none
  | (b, v) :: r, i => if a = b then some (i, v) else atKey a r (i + 1)

theorem MapB.lt {α : Type} {w : World} {m : Nat} {K : α → Value} {kv : List (α × Value)} (h : MapB w m K kv) : m < w.heap.size := by
  obtain ⟨es, c, h, _⟩ := h
  exact (Array.getElem?_eq_some_iff.1 h).1
theorem MapB.below {α : Type} {w w' : World} {B m : Nat} {K : α → Value} {kv : List (α × Value)} (h : MapB w m K kv) (g : Below B w w') (hb : m < B) : MapB w' m K kv := by
  obtain ⟨es, c, h, h2⟩ := h
  exact ⟨es, c, by rw [g.block m hb]; exact h, h2⟩
theorem MapB.all {α : Type} {w w' : World} {m : Nat} {K : α → Value} {kv : List (α × Value)} (h : MapB w m K kv) (g : Below w.heap.size w w') : MapB w' m K kv := h.below g h.lt
theorem MapB.grown {α : Type} {w w' : World} {row : Option Nat} {m : Nat} {K : α → Value} {kv : List (α × Value)} (h : MapB w m K kv) (g : w.grownBy w' row) (hne : some m ≠ row) : MapB w' m K kv := by
  have hl := h.lt
  obtain ⟨es, c, h, h2⟩ := h
  exact ⟨es, c, by rw [g.block m hl hne]; exact h, h2⟩
theorem MapB.drew {α : Type} {w : World} {m : Nat} {K : α → Value} {kv : List (α × Value)} (h : MapB w m K kv) (n : Nat) : MapB (w.drewN n) m K kv := h

theorem atKey_shift {α : Type} [DecidableEq α] (a : α) : ∀ (kv : List (α × Value)) (i : Nat), atKey a kv i = (atKey a kv 0).map fun x => (x.1 + i, x.2)
  | [], i => rfl
  | (b, v) :: r, i => by
    unfold atKey
    by_cases h : a = b
    · simp [h]
    · simp only [h, if_false]
      rw [atKey_shift a r (i + 1), atKey_shift a r (0 + 1)]
      cases atKey a r 0 <;> simp <;> omega

/-- The entry that is found is one of the list, at its place. -/
theorem atKey_get {α : Type} [DecidableEq α] (a : α) : ∀ (kv : List (α × Value)) (i : Nat) (v : Value), atKey a kv 0 = some (i, v) → kv[i]? = some (a, v)
  | [], i, v, h => by simp [atKey] at h
  | (b, u) :: r, i, v, h => by
    unfold atKey at h
    by_cases e : a = b
    · subst e
      simp at h
      obtain ⟨rfl, rfl⟩ := h
      rfl
    · simp only [e, if_false] at h
      rw [atKey_shift] at h
      cases hr : atKey a r 0 with
      | none => simp [hr] at h
      | some x =>
        simp [hr] at h
        obtain ⟨rfl, rfl⟩ := h
        simpa using atKey_get a r x.1 x.2 hr
theorem atKey_none {α : Type} [DecidableEq α] (a : α) : ∀ (kv : List (α × Value)) (i : Nat), atKey a kv i = none ↔ ∀ p ∈ kv, p.1 ≠ a
  | [], i => by simp [atKey]
  | (b, u) :: r, i => by
    unfold atKey
    by_cases e : a = b
    · subst e; simp
    · simp only [e, if_false]
      rw [atKey_none a r (i + 1)]
      constructor
      · intro h p hp
        rcases List.mem_cons.1 hp with rfl | h2
        · exact fun q => e q.symm
        · exact h p h2
      · intro h p hp
        exact h p (by simp [hp])

/-- What is found is what stands at a place of its own, if no key stands twice. -/
theorem atKey_at {α : Type} [DecidableEq α] : ∀ (kv : List (α × Value)) (k : Nat) (a : α) (v : Value), kv.Pairwise (fun p q => p.1 ≠ q.1) → kv[k]? = some (a, v) → atKey a kv 0 = some (k, v)
  | [], k, a, v, _, h => by simp at h
  | (b, u) :: r, 0, a, v, _, h => by
    simp at h
    obtain ⟨rfl, rfl⟩ := h
    simp [atKey]
  | (b, u) :: r, k + 1, a, v, hp, h => by
    simp at h
    rw [List.pairwise_cons] at hp
    have hne : ¬ a = b := fun e => hp.1 (a, v) (List.mem_of_getElem? h) e.symm
    unfold atKey
    simp only [hne, if_false]
    rw [atKey_shift, atKey_at r k a v hp.2 h]
    rfl

/-! ### The search -/
theorem find_ints {α : Type} [DecidableEq α] (d : TypeDesc) (K : α → Value) (hs : ∀ a b, Instr.sameNow d (K a) (K b) = some (decide (a = b))) (a : α) :
    ∀ (es : List MapEntry) (kv : List (α × Value)) (i : Nat), es.map (fun e => (e.key, e.val)) = kv.map (fun p => (K p.1, p.2)) → Instr.findNow d (K a) es i = some (atKey a kv i)
  | [], [], i, _ => rfl
  | e :: es, (b, v) :: kv, i, h => by
    simp only [List.map_cons, List.cons.injEq, Prod.mk.injEq] at h
    obtain ⟨⟨h1, h2⟩, h3⟩ := h
    unfold Instr.findNow atKey
    rw [h1, hs]
    by_cases hab : a = b
    · simp [hab, h2]
    · simp [hab]
      exact find_ints d K hs a es kv (i + 1) h3
  | [], _ :: _, _, h => by simp at h
  | _ :: _, [], _, h => by simp at h

theorem find_ask {α : Type} [DecidableEq α] {P : Program} (w : World) (kt : TypeId) (K : α → Value) (hs : ∀ a b, (Op.equal kt (K a) (K b)).run P w = .ok (decide (a = b)) w) (a : α) :
    ∀ (es : List MapEntry) (kv : List (α × Value)) (i : Nat), es.map (fun e => (e.key, e.val)) = kv.map (fun p => (K p.1, p.2)) → (Instr.findAsking kt (K a) es i).run P w = .ok (atKey a kv i) w
  | [], [], i, _ => rfl
  | e :: es, (b, v) :: kv, i, h => by
    simp only [List.map_cons, List.cons.injEq, Prod.mk.injEq] at h
    obtain ⟨⟨h1, h2⟩, h3⟩ := h
    unfold Instr.findAsking atKey
    rw [h1]
    simp only [Sem.run_bind, hs, Result.andThen_ok]
    by_cases hab : a = b
    · simp [hab, h2]
    · simp [hab]
      exact find_ask w kt K hs a es kv (i + 1) h3
  | [], _ :: _, _, h => by simp at h
  | _ :: _, [], _, h => by simp at h

/-- How the keys of one type are told apart, and that none of them is refused. -/
structure Keys (P : Program) (kt : TypeId) {α : Type} [DecidableEq α] (K : α → Value) : Prop where
  check : ∀ (e : Bool) (a : α) (w : World), (Instr.checkKey e 10000 kt (K a)).run P w = .ok () w
  find : ∀ (a : α) (es : List MapEntry) (kv : List (α × Value)) (w : World), es.map (fun e => (e.key, e.val)) = kv.map (fun p => (K p.1, p.2)) → (Instr.findKey kt (K a) es).run P w = .ok (atKey a kv 0) w
  same : ∀ a, Instr.sameBits 10000 (K a) (K a) = true

/-- Keys that are integers. -/
theorem keys_int {P : Program} {kt : TypeId} {k : IntKind} (h : P.underlying kt = some (.int k)) : Keys P kt (fun a : Int => Value.int k a) where
  check := fun e a w => by
    show (Instr.checkKey e (9999 + 1) kt (Value.int k a)).run P w = _
    rw [Instr.checkKey]
    simp [run_underlying h]
  find := fun a es kv w hm => by
    have := find_ints (.int k) (fun a : Int => Value.int k a) (fun a b => by simp [Instr.sameNow, BEq.beq]) a es kv 0 hm
    simp [Instr.findKey, run_underlying h, this]
  same := fun a => by simp [Instr.sameBits]

theorem run_checkKey_arr {P : Program} (w : World) (em : Bool) (d : Nat) (t e : TypeId) (n : Nat) (k : IntKind) (ht : P.underlying t = some (.array n e)) (he : P.underlying e = some (.int k)) (hsz : (P.info? e).map (·.size) = some 1)
    (xs : List Int) (hx : xs.length = n) : (Instr.checkKey em (d + 2) t (.agg (xs.map (Value.int k)).toArray)).run P w = .ok () w := by
  obtain ⟨i0, hi1, hi2⟩ := Option.map_eq_some_iff.1 hsz
  have hsz : ∀ w, (sizeOf e).run P w = .ok 1 w := fun w => by simp [sizeOf, typeInfo, hi1, hi2]
  rw [Instr.checkKey]
  simp only [Sem.run_bind, run_underlying ht, Result.andThen_ok, Std.Legacy.Range.forIn_eq_forIn_range', Std.Legacy.Range.size, Nat.sub_zero, Nat.add_sub_cancel, Nat.div_one]
  have hl : ∀ i ∈ List.range' 0 n 1, i < n := fun i hi => by simpa using (List.mem_range'_1.1 hi).2
  generalize List.range' 0 n 1 = l at hl ⊢
  induction l with
  | nil => simp
  | cons i l ih =>
    have hi : i < n := hl i (by simp)
    have px : (Go.part e (xs.map (Value.int k)).toArray (i * 1)).run P w = .ok (.int k (xs.getD i 0)) w := by
      simp [Go.part, isAgg, run_underlying he, List.getD, List.getElem?_eq_getElem (show i < xs.length by omega)]
    have pc : (Instr.checkKey em (d + 1) e (.int k (xs.getD i 0))).run P w = .ok () w := by
      rw [Instr.checkKey]
      simp [run_underlying he]
    simp only [List.forIn_cons, Sem.run_bind, hsz, px, pc, Result.andThen_ok, Sem.run_pure]
    exact ih fun j hj => hl j (by simp [hj])

/-- Keys that are arrays of integers. -/
theorem keys_arr {α : Type} [DecidableEq α] {P : Program} {kt e : TypeId} {n : Nat} {k : IntKind} (ht : P.underlying kt = some (.array n e)) (he : P.underlying e = some (.int k)) (hsz : (P.info? e).map (·.size) = some 1)
    (f : α → List Int) (hl : ∀ a, (f a).length = n) (hinj : ∀ a b, f a = f b → a = b) : Keys P kt (fun a : α => Value.agg ((f a).map (Value.int k)).toArray) where
  check := fun em a w => run_checkKey_arr w em 9998 kt e n k ht he hsz (f a) (hl a)
  find := fun a es kv w hm => by
    have hask := find_ask w kt (fun a : α => Value.agg ((f a).map (Value.int k)).toArray) (fun a b => by
      have := run_equalIn_arr w 9998 kt e n k ht he hsz (f a) (f b) (hl a) (hl b)
      show (Op.equalIn (9998 + 2) kt _ _).run P w = _
      rw [this]
      congr 1
      rw [Bool.eq_iff_iff]
      simp only [beq_iff_eq, decide_eq_true_eq]
      exact ⟨hinj a b, fun h => by rw [h]⟩) a es kv 0 hm
    unfold Instr.findKey
    simp only [Sem.run_bind, run_underlying ht, Result.andThen_ok]
    cases es with
    | nil =>
      cases kv with
      | nil => rfl
      | cons q r => simp at hm
    | cons x r =>
      have : Instr.findNow (.array n e) (Value.agg ((f a).map (Value.int k)).toArray) (x :: r) 0 = none := by simp [Instr.findNow, Instr.sameNow]
      rw [this]
      exact hask
  same := fun a => by
    show Instr.sameBits (9999 + 1) _ _ = true
    rw [Instr.sameBits]
    simp only [beq_self_eq_true, Bool.true_and]
    rw [List.all_eq_true]
    intro x hx
    simp only [List.zip_map, List.mem_map] at hx
    obtain ⟨q, hq, rfl⟩ := hx
    have hzz : q.1 = q.2 := by
      rw [List.zip_eq_zipWith] at hq
      obtain ⟨i, hi, rfl⟩ := List.mem_iff_getElem.1 hq
      simp
    simp [Instr.sameBits, hzz]

section
variable {P : Program} {ops : Array Oper} {rest : List Oper} {o : Oper} {a : Act} {w : World} {Q : Exit → Act → World → Prop}

/-- A new map. -/
theorem wpList_makeMapB {α : Type} (K : α → Value) (hgd : o.guard = none) (t : TypeId) (ho : o.op = .makeMap t none)
    (h : ∀ g w', w.heap.size ≤ g → MapB w' g K [] → w.grownBy w' none → wpList P ops Q rest (a.put o.dst (.map (some g))) w') : wpList P ops Q (o :: rest) a w := by
  refine wpList_val hgd (v := .map (some w.heap.size)) (w' := w.alloc (.map #[] 0)) ?_ (h w.heap.size _ (Nat.le_refl _) ⟨#[], 0, heap_alloc_new w _, by simp⟩ (World.grownBy_alloc w _ none))
  simp [execOp, ho, Instr.makeMap, newObj]
  rfl

theorem run_lookupB {α : Type} [DecidableEq α] {K : α → Value} {t kt et : TypeId} (ht : P.underlying t = some (.map kt et)) (hk : Keys P kt K) {m : Nat} {kv : List (α × Value)} (hm : MapB w m K kv) (x : α) (z : Value)
    (hz : (P.info? et).map (·.zero) = some (some z)) (ok : Bool) :
    (Instr.lookup t (.map (some m)) (K x) ok).run P w = .ok (if ok then .tuple #[((atKey x kv 0).map (·.2)).getD z, .bool (atKey x kv 0).isSome] else ((atKey x kv 0).map (·.2)).getD z) w := by
  obtain ⟨es, clock, h1, h2⟩ := hm
  have hg : (getObj m).run P w = .ok (.map es clock) w := by simp [getObj, Sem.run, h1]
  obtain ⟨i, hi, hi2⟩ := Option.map_eq_some_iff.1 hz
  have ez : (zeroValue et).run P w = .ok z w := by simp [zeroValue, typeInfo, hi, hi2]
  have hf := hk.find x es.toList kv w h2
  have hc := hk.check es.isEmpty x w
  unfold Instr.lookup
  simp only [Sem.run_bind, run_underlying ht, Result.andThen_ok, hg, Sem.run_pure, hc, hf]
  cases atKey x kv 0 with
  | none => simp [ez]
  | some y => simp

/-- A look-up. -/
theorem wpList_lookupB {α : Type} [DecidableEq α] {K : α → Value} (hgd : o.guard = none) (t : TypeId) (mo xo : Operand) (ok : Bool) (ho : o.op = .lookup t mo xo ok) (kt et : TypeId) (ht : P.underlying t = some (.map kt et)) (hk : Keys P kt K)
    (m : Nat) (hmo : a.eval mo = .map (some m)) (kv : List (α × Value)) (hm : MapB w m K kv) (x : α) (hx : a.eval xo = K x) (z : Value) (hz : (P.info? et).map (·.zero) = some (some z))
    (h : wpList P ops Q rest (a.put o.dst (if ok then .tuple #[((atKey x kv 0).map (·.2)).getD z, .bool (atKey x kv 0).isSome] else ((atKey x kv 0).map (·.2)).getD z)) w) : wpList P ops Q (o :: rest) a w := by
  refine wpList_val hgd (v := _) (w' := w) ?_ h
  have hr := run_lookupB (w := w) ht hk hm x z hz ok
  simp only [execOp, ho, hmo, hx]
  simp [hr]

/-- A look-up, what it yields said by an equation. -/
theorem wpList_lookupV {α : Type} [DecidableEq α] {K : α → Value} (hgd : o.guard = none) (t : TypeId) (mo xo : Operand) (ok : Bool) (ho : o.op = .lookup t mo xo ok) (kt et : TypeId) (ht : P.underlying t = some (.map kt et)) (hk : Keys P kt K)
    (m : Nat) (hmo : a.eval mo = .map (some m)) (kv : List (α × Value)) (hm : MapB w m K kv) (x : α) (hx : a.eval xo = K x) (z : Value) (hz : (P.info? et).map (·.zero) = some (some z)) (v : Value)
    (hv : (if ok then .tuple #[((atKey x kv 0).map (·.2)).getD z, .bool (atKey x kv 0).isSome] else ((atKey x kv 0).map (·.2)).getD z) = v)
    (h : wpList P ops Q rest (a.put o.dst v) w) : wpList P ops Q (o :: rest) a w :=
  wpList_lookupB hgd t mo xo ok ho kt et ht hk m hmo kv hm x hx z hz (by rw [hv]; exact h)

theorem run_updateB {α : Type} [DecidableEq α] {K : α → Value} {t kt et : TypeId} (ht : P.underlying t = some (.map kt et)) (hk : Keys P kt K) {m : Nat} {kv : List (α × Value)} (hm : MapB w m K kv) (x : α) (v : Value) :
    ∃ w', (Instr.mapUpdate t (.map (some m)) (K x) v).run P w = .ok () w' ∧ MapB w' m K (match atKey x kv 0 with | some y => kv.set y.1 (x, v) | none => kv ++ [(x, v)]) ∧ w.grownBy w' (some m) := by
  have hlt := hm.lt
  obtain ⟨es, clock, h1, h2⟩ := hm
  have hg : (getObj m).run P w = .ok (.map es clock) w := by simp [getObj, Sem.run, h1]
  have hf := hk.find x es.toList kv w h2
  have hc := hk.check false x w
  have hset : ∀ (ob : Obj), (setObj m ob).run P w = .ok () { w with heap := w.heap.setIfInBounds m ob } := fun ob => by simp [setObj, Sem.run, h1]
  have hgrow : ∀ (ob : Obj), w.grownBy { w with heap := w.heap.setIfInBounds m ob } (some m) := fun ob => ⟨rfl, rfl, rfl, by simp, fun k _ hk => by simp [Array.getElem?_setIfInBounds]; intro e; exact absurd (by rw [e]) hk⟩
  have hget : ∀ (ob : Obj), ({ w with heap := w.heap.setIfInBounds m ob } : World).heap[m]? = some ob := fun ob => by simp [hlt]
  unfold Instr.mapUpdate
  simp only [Sem.run_bind, run_underlying ht, Result.andThen_ok, hg, hc, hf]
  cases hat : atKey x kv 0 with
  | none =>
    refine ⟨_, hset _, ⟨_, _, hget _, ?_⟩, hgrow _⟩
    simp [h2]
  | some y =>
    have hgt := atKey_get x kv y.1 y.2 hat
    have hlen : es.size = kv.length := by simpa using congrArg List.length h2
    have hyl : y.1 < kv.length := (List.getElem?_eq_some_iff.1 hgt).1
    have hkey : ((es[y.1]?).map (·.key)).getD (K x) = K x := by
      have h3 : (es.toList.map (fun e => (e.key, e.val)))[y.1]? = (kv.map (fun p => (K p.1, p.2)))[y.1]? := by rw [h2]
      simp only [List.getElem?_map, hgt, Array.getElem?_toList] at h3
      cases he : es[y.1]? with
      | none => simp
      | some e => simp [he] at h3; simp [h3.1]
    refine ⟨{ w with heap := w.heap.setIfInBounds m (.map (es.modify y.1 fun e => { e with key := K x, val := v }) clock) }, ?_, ⟨_, _, hget _, ?_⟩, hgrow _⟩
    · show (Instr.keyThatStays (((es[y.1]?).map (·.key)).getD (K x)) (K x) >>= fun key => setObj m (.map (es.modify y.1 fun e => { e with key, val := v }) clock)).run P w = _
      rw [hkey]
      simp [Instr.keyThatStays, hk.same, hset]
    · simp only [Array.toList_modify]
      apply List.ext_getElem?
      intro i
      have h3 : (es.toList.map (fun e => (e.key, e.val)))[i]? = (kv.map (fun p => (K p.1, p.2)))[i]? := by rw [h2]
      simp only [List.getElem?_map, List.getElem?_modify, List.getElem?_set] at h3 ⊢
      by_cases hi : y.1 = i
      · subst hi
        simp only [if_true, hyl]
        have : y.1 < es.toList.length := by simpa [hlen] using hyl
        simp [List.getElem?_eq_getElem this]
      · simp only [hi, if_false]
        simpa using h3

/-- A store into a map. -/
theorem wpList_updateB {α : Type} [DecidableEq α] {K : α → Value} (hgd : o.guard = none) (t : TypeId) (mo xo vo : Operand) (ho : o.op = .mapUpdate t mo xo vo) (kt et : TypeId) (ht : P.underlying t = some (.map kt et)) (hk : Keys P kt K)
    (m : Nat) (hmo : a.eval mo = .map (some m)) (kv : List (α × Value)) (hm : MapB w m K kv) (x : α) (hx : a.eval xo = K x) (v : Value) (hv : a.eval vo = v)
    (h : ∀ w', MapB w' m K (match atKey x kv 0 with | some y => kv.set y.1 (x, v) | none => kv ++ [(x, v)]) → w.grownBy w' (some m) → wpList P ops Q rest (a.put o.dst undef) w') : wpList P ops Q (o :: rest) a w := by
  obtain ⟨w', hr, h1, h2⟩ := run_updateB (w := w) ht hk hm x v
  refine wpList_plain hgd fun K' hK => ?_
  unfold Oper.wp
  simp only [execOp, ho, hmo, hx, hv]
  simp [hr, Result.andThen]
  exact hK _ _ (h w' h1 h2)

/-- A store of a key that is not there yet. -/
theorem wpList_updateNew {α : Type} [DecidableEq α] {K : α → Value} (hgd : o.guard = none) (t : TypeId) (mo xo vo : Operand) (ho : o.op = .mapUpdate t mo xo vo) (kt et : TypeId) (ht : P.underlying t = some (.map kt et)) (hk : Keys P kt K)
    (m : Nat) (hmo : a.eval mo = .map (some m)) (kv : List (α × Value)) (hm : MapB w m K kv) (x : α) (hx : a.eval xo = K x) (v : Value) (hv : a.eval vo = v) (hnew : atKey x kv 0 = none)
    (h : ∀ w', MapB w' m K (kv ++ [(x, v)]) → w.grownBy w' (some m) → wpList P ops Q rest (a.put o.dst undef) w') : wpList P ops Q (o :: rest) a w :=
  wpList_updateB hgd t mo xo vo ho kt et ht hk m hmo kv hm x hx v hv (fun w' h1 h2 => h w' (by rw [hnew] at h1; exact h1) h2)

/-- The number of entries. -/
theorem run_lenB {α : Type} {K : α → Value} {t kt et ty : TypeId} (ht : P.underlying t = some (.map kt et)) {m : Nat} {kv : List (α × Value)} (hm : MapB w m K kv) :
    (Builtin.len_ #[t] ty #[.map (some m)]).run P w = .ok (.int .i64 kv.length) w := by
  obtain ⟨es, clock, h1, h2⟩ := hm
  have hg : (getObj m).run P w = .ok (.map es clock) w := by simp [getObj, Sem.run, h1]
  have hlen : es.size = kv.length := by simpa using congrArg List.length h2
  simp [Builtin.len_, run_underlying ht, hg, hlen, goInt]
end
end Go.Proofs.Qxb6603070aMods.L
