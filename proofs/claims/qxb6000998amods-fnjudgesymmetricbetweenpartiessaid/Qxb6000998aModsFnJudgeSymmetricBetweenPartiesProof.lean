/-
  THE PROOF OF 'Rows.FnJudgeSymmetricBetweenPartiesSaid': the frame after the guide's proof-skeleton.mjs, turned to six parameters (three arrays by value, two slices of bytes, a number).
-/
import Derived.Test.Qxb6000998aModsRows
import Derived.Test.Qxb6000998aModsJLaw
import Derived.WalkKit
import Derived.ProofKit
import Derived.OpenShut
import Derived.ShutString
import Derived.ChangeOld
import Derived.Below
namespace Go.Proofs.Qxb6000998aMods.fnJudgeSymmetricBetweenParties
open Go.ChangeShapes Go.WideShapes Go.ChangeAt Go.RowKit
open Go.ChangeMaps (open_string shut_string)
set_option linter.unusedVariables false

theorem own : ownKnob Trym.prog.godebug = none := by kernel_rfl
theorem laidOut : laidOutB Trym.prog = true := by kernel_rfl

/-- What the walk is told of a slice of bytes that came in. -/
def IsRow (k : IntKind) (w : World) (a : Option Addr) (len cap : Nat) (zs : List Int) : Prop :=
  (a = none ∧ len = 0 ∧ cap = 0 ∧ zs = []) ∨
  ∃ x, a = some x ∧ len ≤ cap ∧ cap ≤ maxLen ∧ zs.length = cap ∧ (∀ i, i < zs.length → w.cell? (x.add i) = some (.int k (zs.getD i 0))) ∧ ∀ n ∈ zs, (Lit.int k n).wf = true

theorem IsRow.bytes {w : World} {a : Option Addr} {len cap : Nat} {zs : List Int} (h : IsRow .u8 w a len cap zs) : (∀ n ∈ zs.take len, 0 ≤ n ∧ n ≤ 255) ∧ (zs.take len).length = len := by
  rcases h with ⟨_, rfl, _, rfl⟩ | ⟨x, _, hlc, _, hz, _, hwf⟩
  · simp
  · refine ⟨fun n hn => by simpa using bounds_u8 (hwf n (List.mem_of_mem_take hn)), by simp; omega⟩

theorem walk (us vs ts : List Int) (hu : us.length = 32) (hv : vs.length = 32) (hts : ts.length = 32) (a2 a3 : Option Addr) (n2 c2 n3 c3 : Nat) (z2 z3 : List Int) (r : Int) (w : World)
    (w2 : IsRow .u8 w a2 n2 c2 z2) (w3 : IsRow .u8 w a3 n3 c3 z3) (l2 : n2 ≤ 140737488355328) (l3 : n3 ≤ 140737488355328) :
    Calls Trym.prog 4 #[.agg (us.map (Value.int .u8)).toArray, .agg (vs.map (Value.int .u8)).toArray, .slice a2 n2 c2, .slice a3 n3 c3, .int .u64 r, .agg (ts.map (Value.int .u8)).toArray] w fun e w' =>
      e = .returned (.bool true) ∧ Below w.heap.size w w' := by
  by_cases hbig : 1048576 < n2 + n3
  · exact J.law_big us vs ts hu hv hts a2 a3 n2 c2 n3 c3 r w hbig l2 l3
  · exact J.law_small us vs ts (z2.take n2) (z3.take n3) hu hv hts a2 a3 n2 c2 n3 c3 r w (by omega) w2.bytes.1 w3.bytes.1 w2.bytes.2 (J.clone_row a2 n2 c2 z2 w (by omega) w2) (J.clone_row a3 n3 c3 z3 w (by omega) w3)

set_option maxRecDepth 100000 in
set_option maxHeartbeats 1000000 in
theorem lifted (os : Os) (started : os.Started) (H : Type) (enc : TypeId × Value → H) :
    ReturnsInHanded {} Trym.checked os 4 .any (Rows.fnJudgeSymmetricBetweenPartiesSpec.pre6 enc Trym.prog Trym.f4 Rows.fnJudgeSymmetricBetweenPartiesRow.domain false) (Rows.fnJudgeSymmetricBetweenPartiesSpec.post enc Trym.prog Trym.f4 false true false false) := by
  refine returnsInHanded_of_change_sized (C := Trym.checked) own started (by kernel_rfl) Trym.func4
    (ChangeSpec.witness6 (enc := enc) (C := Trym.checked) false ⟨#[], #[.agg (Array.replicate 32 (.int .u8 0)), .agg (Array.replicate 32 (.int .u8 0)), .slice none 0 0, .slice none 0 0, .int .u64 0, .agg (Array.replicate 32 (.int .u8 0))], []⟩ 8 (by kernel_rfl) (by kernel_rfl) (by kernel_rfl) (by kernel_rfl)) ?_
  intro W base args ds gs before hval0 hW hcnd hsz0 _
  have hval : ∀ (j : Nat) t v, Trym.f4.params[j]? = some t → args[j]? = some v → Value.okWide Trym.prog W .any base t v := hval0
  have hsz : (DataW.weightsEach Trym.prog (Trym.f4.params.toList ++ Rows.fnJudgeSymmetricBetweenPartiesSpec.plain.varTypes Trym.prog) (ds ++ gs)).all (· ≤ reachBytes) = true := hsz0
  have hW' := hW
  obtain ⟨p, q, hA0, hV, rfl, hfz, hnd⟩ := hW
  have hA : DataW.TrodAll enc Trym.prog W 0 (fun _ => true) true Trym.f4.params.toList args.toList ds p := hA0
  rw [Trym.params4] at hA hval hsz
  obtain ⟨v0, vs0, d0, ds0, p0, q0, hargs, rfl, rfl, h0, r0⟩ := trodAll_cons hA
  obtain ⟨v1, vs1, d1, ds1, p1, q1, rfl, rfl, rfl, h1, r1⟩ := trodAll_cons r0
  obtain ⟨v2, vs2, d2, ds2, p2, q2, rfl, rfl, rfl, h2, r2⟩ := trodAll_cons r1
  obtain ⟨v3, vs3, d3, ds3, p3, q3, rfl, rfl, rfl, h3, r3⟩ := trodAll_cons r2
  obtain ⟨v4, vs4, d4, ds4, p4, q4, rfl, rfl, rfl, h4, r4⟩ := trodAll_cons r3
  obtain ⟨v5, vs5, d5, ds5, p5, q5, rfl, rfl, rfl, h5, r5⟩ := trodAll_cons r4
  obtain ⟨rfl, rfl, rfl⟩ := trodAll_nil r5
  obtain rfl : args = #[v0, v1, v2, v3, v4, v5] := by cases args; simp_all
  obtain ⟨rfl, rfl⟩ := trodVars_none hV
  have k0 := h0
  have k1 := h1
  have k2 := h2
  have k3 := h3
  have k5 := h5
  have lt0 : ∀ x ∈ p0, x.block < W.heap.size := by obtain ⟨m, hm⟩ := k0; exact DataW.trod_lt m _ _ _ hm
  have lt1 : ∀ x ∈ p1, x.block < W.heap.size := by obtain ⟨m, hm⟩ := k1; exact DataW.trod_lt m _ _ _ hm
  have lt2 : ∀ x ∈ p2, x.block < W.heap.size := by obtain ⟨m, hm⟩ := k2; exact DataW.trod_lt m _ _ _ hm
  have lt3 : ∀ x ∈ p3, x.block < W.heap.size := by obtain ⟨m, hm⟩ := k3; exact DataW.trod_lt m _ _ _ hm
  have lt5 : ∀ x ∈ p5, x.block < W.heap.size := by obtain ⟨m, hm⟩ := k5; exact DataW.trod_lt m _ _ _ hm
  obtain ⟨us, hu, rfl⟩ := J.open_arr (hval 0 22 v0 rfl rfl) h0
  obtain ⟨vs, hv, rfl⟩ := J.open_arr (hval 1 22 v1 rfl rfl) h1
  obtain ⟨ts, hts, rfl⟩ := J.open_arr (hval 5 22 v5 rfl rfl) h5
  obtain ⟨a2, n2, c2, rfl⟩ := okWide_slice Trym.underlying24 (hval 2 24 v2 rfl rfl)
  obtain ⟨a3, n3, c3, rfl⟩ := okWide_slice Trym.underlying24 (hval 3 24 v3 rfl rfl)
  obtain ⟨z2, w2, l2⟩ : ∃ zs, IsRow .u8 W a2 n2 c2 zs ∧ n2 ≤ 140737488355328 := by
    obtain ⟨fuel, hf⟩ := h2
    rcases open_ints Trym.underlying24 Trym.underlying5 (by kernel_rfl) hf with ⟨hcs, _⟩ | ⟨x, l, c, zs, hcs, _, hl, hm, hz, hx, hcell, hwz⟩
    · simp [Value.cells] at hcs
      obtain ⟨rfl, rfl, rfl⟩ := hcs
      exact ⟨[], .inl ⟨rfl, rfl, rfl, rfl⟩, by omega⟩
    · simp [Value.cells] at hcs
      obtain ⟨rfl, rfl, rfl⟩ := hcs
      simp only [Prod.mk.injEq] at hx
      obtain ⟨rfl, _⟩ := hx
      have hz' : zs.length = c2 := by simpa using hz
      have hs := sized_slice hsz (j := 2) (t := 24) (e := 5) rfl rfl Trym.underlying24
      have hb5 : Trym.prog.bytesOf 5 = 1 := by kernel_rfl
      rw [hb5] at hs
      simp only [lits, List.length_map, List.length_take, List.length_drop, reachBytes] at hs
      exact ⟨zs, .inr ⟨_, rfl, hl, hm, hz', hcell, hwz⟩, by omega⟩
  obtain ⟨z3, w3, l3⟩ : ∃ zs, IsRow .u8 W a3 n3 c3 zs ∧ n3 ≤ 140737488355328 := by
    obtain ⟨fuel, hf⟩ := h3
    rcases open_ints Trym.underlying24 Trym.underlying5 (by kernel_rfl) hf with ⟨hcs, _⟩ | ⟨x, l, c, zs, hcs, _, hl, hm, hz, hx, hcell, hwz⟩
    · simp [Value.cells] at hcs
      obtain ⟨rfl, rfl, rfl⟩ := hcs
      exact ⟨[], .inl ⟨rfl, rfl, rfl, rfl⟩, by omega⟩
    · simp [Value.cells] at hcs
      obtain ⟨rfl, rfl, rfl⟩ := hcs
      simp only [Prod.mk.injEq] at hx
      obtain ⟨rfl, _⟩ := hx
      have hz' : zs.length = c3 := by simpa using hz
      have hs := sized_slice hsz (j := 3) (t := 24) (e := 5) rfl rfl Trym.underlying24
      have hb5 : Trym.prog.bytesOf 5 = 1 := by kernel_rfl
      rw [hb5] at hs
      simp only [lits, List.length_map, List.length_take, List.length_drop, reachBytes] at hs
      exact ⟨zs, .inr ⟨_, rfl, hl, hm, hz', hcell, hwz⟩, by omega⟩
  obtain ⟨a4, rfl, rfl, rfl, w4⟩ := open_int Trym.underlying23 (hval 4 23 v4 rfl rfl) h4
  clear hA0 hval0
  refine (walk us vs ts hu hv hts a2 a3 n2 c2 n3 c3 z2 z3 a4 W w2 w3 l2 l3).mono fun e W' ⟨he, bel⟩ => ?_
  subst he
  exact ⟨_, rfl, _, _, _, [], _, [], hW', trodAll_mk1 (shut_bool Trym.underlying4 _),
    (trodAll_cons_mk (Below.trod laidOut (by kernel_rfl) (of_decide_eq_true (by kernel_rfl)) k0 bel lt0) (trodAll_cons_mk (Below.trod laidOut (by kernel_rfl) (of_decide_eq_true (by kernel_rfl)) k1 bel lt1)
      (trodAll_cons_mk (Below.trod laidOut (by kernel_rfl) (of_decide_eq_true (by kernel_rfl)) k2 bel lt2) (trodAll_cons_mk (Below.trod laidOut (by kernel_rfl) (of_decide_eq_true (by kernel_rfl)) k3 bel lt3)
        (trodAll_cons_mk (shut_int Trym.underlying23 w4) (trodAll_cons_mk (Below.trod laidOut (by kernel_rfl) (of_decide_eq_true (by kernel_rfl)) k5 bel lt5) trodAll_mk0)))))), rfl, bel.frame _, fun h => by cases h⟩

theorem over : Rows.fnJudgeSymmetricBetweenPartiesRow.holds Trym.pinned (OpenSpec.ofChange Rows.fnJudgeSymmetricBetweenPartiesSpec) :=
  OpenClaim.holds_of_wide 4 Trym.f4 rfl rfl rfl rfl rfl rfl rfl ⟨rfl, rfl, rfl, rfl, rfl⟩ rfl rfl rfl rfl rfl (by kernel_rfl) Trym.func4 (by kernel_rfl)
    (of_decide_eq_true (by kernel_rfl)) (by unfold Func.isWrapper; first | (rw [if_pos (by decide +kernel)]; kernel_rfl) | (rw [if_neg (by decide +kernel)]; exact ⟨rfl, rfl⟩))
    (fun os started H enc _ => lifted os started H enc)

/-- The statement. -/
theorem proved : Rows.FnJudgeSymmetricBetweenPartiesSaid := over
end Go.Proofs.Qxb6000998aMods.fnJudgeSymmetricBetweenParties
