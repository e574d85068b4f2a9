import Derived.Test.Qxb6000998aModsJJudge
import Derived.Maps.RangeWalk
namespace Go.Proofs.Qxb6000998aMods.J
open Go.RowKit Go.Proofs.Qxb6000998aMods.L

theorem drop0 (us : List Int) (hu : us.length = 32) : ((us.map (Value.int .u8)).drop 0).take 32 = us.map (Value.int .u8) := by
  rw [List.drop_zero, List.take_of_length_le (by simp [hu])]

set_option maxHeartbeats 1600000 in
theorem zzjudge_any (us zs ys : List Int) (bb fb : Nat) (r : Int) (CU CV : List Value) (mu mv : Value) (w : World) (hu : us.length = 32)
    (h1 : Blk w bb CU 37) (h2 : Blk w fb CV 37) (l2 : CV.length = 196) (m1 : CU[98]? = some mu) (m2 : CV[98]? = some mv) (b1 : Bytes w mu zs) (b2 : Bytes w mv ys)
    (hcp : (CV.drop 66).take 32 = us.map (Value.int .u8)) (hz : ∀ n ∈ zs, 0 ≤ n ∧ n ≤ 255) (hy : ∀ n ∈ ys, 0 ≤ n ∧ n ≤ 255) (t : Bool) (ht : (zs == ys) = t) :
    Calls Trym.prog 13 #[.agg (us.map (Value.int .u8)).toArray, .pointer (some ⟨bb, 0, none⟩), .int .u64 r, .int .u64 r, .slice (some ⟨fb, 0, none⟩) 1 1] w fun e w' =>
      e = .returned (.tuple #[.int .i64 (if t then 1 else 2), .bool true]) ∧ Below w.heap.size w w' := by
  have HT : Hid ((zs == ys) = t) := ht
  clear ht
  go_enter Trym.func13, Trym.ntmps13
  go_wp2_with (first | (with_reducible show wpList _ _ _ (Oper.mk _ (Op.box 22 _) _ _ _ _ :: _) _ _; refine wpList_boxB rfl 22 _ rfl _ (us.map (Value.int .u8)) rfl rfl ?_) | fail)
  intro g1 w1 hg1 hB1 hgr1
  have hbel := grownBelow hgr1
  replace h1 := h1.all hbel
  replace h2 := h2.all hbel
  replace b1 := b1.all hbel
  replace b2 := b2.all hbel
  clear hgr1
  have d0 := drop0 us hu
  go_wp2_with (first | (with_reducible show wpList _ _ _ (Oper.mk _ (Op.load 22 _) _ _ _ _ :: _) _ _; refine wpList_loadB rfl 22 _ rfl g1 0 rfl _ 22 32 hB1 _ Trym.underlying22 rfl Trym.size22 (by simp [hu]) ?_; rw [d0]) | fail)
  have H := judge_any us zs ys bb fb r CU CV mu mv w1 hu h1 h2 l2 m1 m2 b1 b2 hcp hz hy t HT.out
  refine H.mono ?_
  rintro e w2 ⟨rfl, hb2⟩
  clear H
  go_wp2
  all_goals
    go_ret2
    exact ⟨rfl, hbel.trans (hb2.mono hbel.size)⟩

set_option maxHeartbeats 1600000 in
theorem zzbytes_any (us vs ts : List Int) (a a' : Option Addr) (n c n' c' : Nat) (r : Int) (w : World) (t : Bool) (hn : n ≤ 140737488355328) (hn' : n' ≤ 140737488355328) (ht : decide (n + n' ≤ 1048576) = t) :
    Calls Trym.prog 14 #[.agg (us.map (Value.int .u8)).toArray, .agg (vs.map (Value.int .u8)).toArray, .slice a n c, .slice a' n' c', .int .u64 r, .agg (ts.map (Value.int .u8)).toArray] w fun e w' =>
      e = .returned (.bool t) ∧ Below w.heap.size w w' := by
  go_enter Trym.func14, Trym.ntmps14
  go_wp2_with (first | (with_reducible show wpList _ _ _ (Oper.mk _ (Op.box 22 (Operand.tmp 0)) _ _ _ _ :: _) _ _; refine wpList_boxB rfl 22 _ rfl _ (us.map (Value.int .u8)) rfl rfl ?_) | fail)
  intro g1 w1 hg1 hB1 hgr1
  go_wp2_with (first | (with_reducible show wpList _ _ _ (Oper.mk _ (Op.box 22 (Operand.tmp 1)) _ _ _ _ :: _) _ _; refine wpList_boxB rfl 22 _ rfl _ (vs.map (Value.int .u8)) rfl rfl ?_) | fail)
  intro g2 w2 hg2 hB2 hgr2
  go_wp2_with (first | (with_reducible show wpList _ _ _ (Oper.mk _ (Op.box 22 (Operand.tmp 5)) _ _ _ _ :: _) _ _; refine wpList_boxB rfl 22 _ rfl _ (ts.map (Value.int .u8)) rfl rfl ?_) | fail)
  intro g3 w3 hg3 hB3 hgr3
  have hb2 := (grownBelow hgr1).trans ((grownBelow hgr2).mono hgr1.size)
  have hbel := hb2.trans ((grownBelow hgr3).mono hb2.size)
  clear hgr1 hgr2 hgr3 hb2 hB1 hB2 hB3
  cases t with
  | true =>
    have h : n + n' ≤ 1048576 := of_decide_eq_true ht
    clear ht
    go_wp2
    go_ret
    exact ⟨rfl, hbel⟩
  | false =>
    have h : 1048576 < n + n' := by have := of_decide_eq_false ht; omega
    clear ht
    go_wp2
    all_goals (go_ret; exact ⟨rfl, hbel⟩)

/-! ### The struct Block: its zero value, its fields' places -/
theorem zero37 : ∃ Z : List Value, (Trym.prog.info? 37).map (fun i => (i.zero, i.size, i.bytes)) = some (some (.agg Z.toArray), 196, 240) ∧ Z.length = 196 ∧ Ones Z := by
  have h : ((Trym.prog.info? 37).map fun i => (match i.zero with | some (.agg c) => c.toList.length == 196 && c.toList.all (·.oneCell') | _ => false, i.size, i.bytes)) = some (true, 196, 240) := by kernel_rfl
  obtain ⟨i, hi, hh⟩ := Option.map_eq_some_iff.1 h
  simp only [Prod.mk.injEq] at hh
  obtain ⟨h1, h2, h3⟩ := hh
  split at h1
  · rename_i c hc
    simp only [Bool.and_eq_true, beq_iff_eq, List.all_eq_true] at h1
    exact ⟨c.toList, by simp [hi, hc, h2, h3], h1.1, h1.2⟩
  · cases h1
theorem struct37 : ∃ fs : Array Field, Trym.prog.underlying 37 = some (.struct fs) ∧ placesOf Trym.prog fs.toList = some [(0, 1), (1, 32), (33, 1), (34, 32), (66, 32), (98, 1), (99, 32), (131, 1), (132, 64)] := by
  have h : (match Trym.prog.underlying 37 with | some (.struct fs) => placesOf Trym.prog fs.toList | _ => none) = some [(0, 1), (1, 32), (33, 1), (34, 32), (66, 32), (98, 1), (99, 32), (131, 1), (132, 64)] := by kernel_rfl
  split at h
  · rename_i fs hfs
    exact ⟨fs, hfs, h⟩
  · cases h

/-- A block that bears a kind, a transaction, a counterparty and a message. -/
def blkD (Z : List Value) (k : Value) (ts cs : List Value) (m : Value) : List Value := putL (putL (putL (putL Z 0 [k]) 34 ts) 66 cs) 98 [m]

theorem blkD_fill (Z : List Value) (hZ : Z.length = 196) (k : Value) (ts cs : List Value) (m : Value) (ht : ts.length = 32) (hc : cs.length = 32) (hk : k.cells = #[k]) (hm : m.cells = #[m]) :
    Instr.fill (fun i => ([(0, 1), (1, 32), (33, 1), (34, 32), (66, 32), (98, 1), (99, 32), (131, 1), (132, 64)] : List (Nat × Nat))[i]?) Z.toArray [(0, k), (3, .agg ts.toArray), (4, .agg cs.toArray), (5, m)] = some (blkD Z k ts cs m).toArray := by
  have l1 : (putL Z 0 [k]).length = 196 := by rw [putL_length (by simp; omega)]; exact hZ
  have l2 : (putL (putL Z 0 [k]) 34 ts).length = 196 := by rw [putL_length (by omega)]; exact l1
  have l3 : (putL (putL (putL Z 0 [k]) 34 ts) 66 cs).length = 196 := by rw [putL_length (by omega)]; exact l2
  rw [fill_cons _ Z 0 k _ 0 [k] (by simpa using hk) (by simp) (by simp; omega), fill_cons _ _ 3 (.agg ts.toArray) _ 34 ts rfl (by simp [ht]) (by omega), fill_cons _ _ 4 (.agg cs.toArray) _ 66 cs rfl (by simp [hc]) (by omega),
    fill_cons _ _ 5 m _ 98 [m] (by simpa using hm) (by simp) (by simp; omega)]
  rfl

theorem blkD_facts (Z : List Value) (hZ : Z.length = 196) (hO : Ones Z) (k : Value) (ts cs : List Value) (m : Value) (ht : ts.length = 32) (hc : cs.length = 32) (ok : k.oneCell' = true) (ot : Ones ts) (oc : Ones cs) (om : m.oneCell' = true) :
    (blkD Z k ts cs m).length = 196 ∧ Ones (blkD Z k ts cs m) ∧ (blkD Z k ts cs m)[98]? = some m ∧ ((blkD Z k ts cs m).drop 66).take 32 = cs := by
  have l1 : (putL Z 0 [k]).length = 196 := by rw [putL_length (by simp; omega)]; exact hZ
  have l2 : (putL (putL Z 0 [k]) 34 ts).length = 196 := by rw [putL_length (by omega)]; exact l1
  have l3 : (putL (putL (putL Z 0 [k]) 34 ts) 66 cs).length = 196 := by rw [putL_length (by omega)]; exact l2
  refine ⟨?_, (((hO.put (ones_one ok)).put ot).put oc).put (ones_one om), ?_, ?_⟩
  · unfold blkD; rw [putL_length (by simp; omega)]; exact l3
  · unfold blkD; exact putL_one (by omega)
  · unfold blkD
    rw [putL_apart (by simp; omega) 66 32 (Or.inl (by omega))]
    have := putL_same (C := putL (putL Z 0 [k]) 34 ts) (o := 66) (vs := cs) (by omega)
    rwa [hc] at this
end Go.Proofs.Qxb6000998aMods.J
