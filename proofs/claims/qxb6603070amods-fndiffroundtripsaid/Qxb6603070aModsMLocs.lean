import Derived.Test.Qxb6603070aModsMRows
namespace Go.Proofs.Qxb6603070aMods.M
open Go.RowKit Go.Proofs.Qxb6603070aMods.L

/-- A row of pairs of the call's own: nil, or a block of type t. -/
def Prs (t : TypeId) (w : World) (a : Option Addr) (L : List P2) : Prop := (a = none ∧ L = []) ∨ ∃ g, a = some ⟨g, 0, none⟩ ∧ Blk w g (flatP L) t
theorem Prs.all {t : TypeId} {w w' : World} {a : Option Addr} {L : List P2} (h : Prs t w a L) (b : Below w.heap.size w w') : Prs t w' a L := by
  rcases h with h | ⟨g, ha, hg⟩
  · exact .inl h
  · exact .inr ⟨g, ha, hg.all b⟩

def emp : P2 := (ByteArray.empty, ByteArray.empty)
def partP (L : List P2) (k : Nat) : List P2 := L.take k ++ List.replicate (L.length - k) emp
theorem partP_length (L : List P2) (k : Nat) (hk : k ≤ L.length) : (partP L k).length = L.length := by simp [partP]; omega
theorem partP_step (L : List P2) (k : Nat) (x : P2) (h : L[k]? = some x) : (partP L k).set k x = partP L (k + 1) := by
  obtain ⟨h1, h2⟩ := List.getElem?_eq_some_iff.1 h
  unfold partP
  rw [take_snoc L k x h, show L.length - k = (L.length - (k + 1)) + 1 from by omega, List.replicate_succ, List.set_append, if_neg (by simp; omega)]
  have e : k - (L.take k).length = 0 := by simp; omega
  rw [e, List.set_cons_zero]
  simp
theorem partP_all (L : List P2) : partP L L.length = L := by simp [partP]
theorem partP_zero (L : List P2) : partP L 0 = List.replicate L.length emp := by simp [partP]
theorem flat_rep (n : Nat) : (List.replicate n [Value.string ByteArray.empty, Value.string ByteArray.empty]).flatten = flatP (List.replicate n emp) := by
  unfold flatP
  rw [List.map_replicate]
  rfl

def ordL : List (Nat × Bool) := [(0, false), (1, false), (2, false), (3, false), (4, false), (5, false), (6, false), (7, false), (8, false), (9, false), (10, true), (11, false), (12, true)]

theorem zip_get {ss ts : List ByteArray} {k : Nat} {x y : ByteArray} (hx : ss[k]? = some x) (hy : ts[k]? = some y) : (ss.zip ts)[k]? = some (x, y) := by
  rw [List.getElem?_zip_eq_some]; exact ⟨hx, hy⟩

set_option maxHeartbeats 3200000 in
/-- zzLocs. -/
theorem locs_any (a a' : Option Addr) (ss ts : List ByteArray) (w : World) (hl : ss.length ≤ 65536) (hst : ts.length = ss.length) (hS : Strs w a ss) (hT : Strs w a' ts) :
    Calls Trym.prog 12 #[.slice a ss.length ss.length, .slice a' ts.length ts.length] w fun e w' => ∃ al, e = .returned (.slice al ss.length ss.length) ∧ Prs 49 w' al (ss.zip ts) ∧ Below w.heap.size w w' := by
  rcases hS with ⟨rfl, rfl⟩ | ⟨g, rfl, hB⟩
  · have hn3 := fun (w : World) => Lib.run_eql_slice_nil (P := Trym.prog) w 22 9 none 0 0 0 0 Trym.underlying22
    show Calls Trym.prog 12 #[.slice none 0 0, _] w _
    go_enter Trym.func12, Trym.ntmps12
    go_wp2
    go_ret
    exact ⟨none, rfl, .inl ⟨rfl, rfl⟩, Below.refl _ _⟩
  · have hn2 := fun (w : World) => Lib.run_eql_slice_nil (P := Trym.prog) w 22 9 (some ⟨g, 0, none⟩) ss.length ss.length 0 0 Trym.underlying22
    have HB : Hid (Blk w g (ss.map Value.string) 9) := hB
    have HT : Hid (Strs w a' ts) := hT
    have HST : Hid (ts.length = ss.length) := hst
    have hzl : (ss.zip ts).length = ss.length := by simp; omega
    rw [hst]
    clear hB hT hst
    go_enter Trym.func12, Trym.ntmps12
    go_wp2_with (first | (at_make; refine wpList_makeB rfl _ _ 29 rfl 49 (.agg #[.string ByteArray.empty, .string ByteArray.empty]) [.string ByteArray.empty, .string ByteArray.empty] rfl 2 32 rfl Trym.underlying29 Trym.info49 _ _ _ _ ss.length rfl rfl rfl rfl (by omega) (by unfold maxLen; omega) ?_; intro gd w1 hgd hBd hgr1) | fail)
    replace hBd : Blk w1 gd (flatP (partP (ss.zip ts) 0)) 49 := by rw [partP_zero, hzl, ← flat_rep]; first | exact hBd | simpa using hBd
    have hb1 := grownBelow hgr1
    go_loopw [6] (fun i wr => ∃ k : Nat, k ≤ ss.length ∧ i = .int .i64 k ∧ Blk wr gd (flatP (partP (ss.zip ts) k)) 49 ∧ Below w.heap.size w wr)
      (fun i _ => ss.length - (intOf i).toNat)
    case atStart => exact ⟨0, Nat.zero_le _, rfl, hBd, hb1⟩
    case round =>
      obtain ⟨k, hk, rfl, hBr, hbr⟩ := hrel
      clear hBd hgr1 hb1
      by_cases hlt : k < ss.length
      · obtain ⟨x, hx⟩ : ∃ x, ss[k]? = some x := ⟨_, List.getElem?_eq_getElem hlt⟩
        obtain ⟨y, hy⟩ : ∃ y, ts[k]? = some y := ⟨_, List.getElem?_eq_getElem (by rw [HST.out]; exact hlt)⟩
        rcases HT.out with ⟨_, h0⟩ | ⟨g', rfl, hB'⟩
        · rw [h0] at hy; simp at hy
        have HZ : Hid ((ss.zip ts)[k]? = some (x, y)) := zip_get hx hy
        have HX : Hid ((ss.map Value.string)[k]? = some (.string x)) := by
          show _ = _
          rw [List.getElem?_map, hx]; rfl
        have HY : Hid ((ts.map Value.string)[k]? = some (.string y)) := by
          show _ = _
          rw [List.getElem?_map, hy]; rfl
        have HB' : Hid (Blk w g' (ts.map Value.string) 9) := hB'
        clear hx hy hB'
        go_wp2
        refine wp_region_walk (fun w' => Below w.heap.size w w') ordL (by kernel_rfl) (by kernel_rfl) (by kernel_rfl) rfl (by kernel_rfl) (fun _ _ d _ _ h => by cases d <;> exact h) hbr.drew ?_
        simp only [picked, ordL, List.map_cons, List.map_nil, List.getD_cons_succ, List.getD_cons_zero]
        refine held_move _ _ rfl rfl rfl ?_
        go_frame
        refine held_move _ _ rfl rfl rfl ?_
        go_frame
        refine held_move _ _ rfl rfl rfl ?_
        go_frame
        refine held_move _ _ rfl rfl rfl ?_
        go_frame
        refine held_take (.pointer (some ⟨g, 0 + k * 1, none⟩)) rfl (fun w' hw' => exec_indexB 22 9 _ _ rfl g 0 _ _ rfl .i64 k rfl hlt Trym.underlying22 1 Trym.size9) ?_
        go_frame
        refine held_take (.string x) rfl (fun w' hw' => exec_load1B 9 _ rfl g _ rfl _ 9 (HB.out.all hw') _ Trym.underlying9 rfl _ (by rw [Nat.zero_add, Nat.mul_one]; exact HX.out)) ?_
        go_frame
        refine held_move _ _ rfl rfl rfl ?_
        go_frame
        refine held_move _ _ rfl rfl rfl ?_
        go_frame
        refine held_take (.pointer (some ⟨g', 0 + k * 1, none⟩)) rfl (fun w' hw' => exec_indexB 22 9 _ _ rfl g' 0 _ _ rfl .i64 k rfl hlt Trym.underlying22 1 Trym.size9) ?_
        go_frame
        refine held_take (.string y) rfl (fun w' hw' => exec_load1B 9 _ rfl g' _ rfl _ 9 (HB'.out.all hw') _ Trym.underlying9 rfl _ (by rw [Nat.zero_add, Nat.mul_one]; exact HY.out)) ?_
        go_frame
        refine held_call 31 #[.string x, .string y] rfl (by simp [go_sem]) ?_
        refine (makeLoc_any x y wr.drew).mono ?_
        rintro e w3 ⟨rfl, hb3⟩
        refine ⟨_, rfl, hbr.drew.trans (hb3.mono hbr.drew.size), ?_⟩
        go_frame
        refine held_take (.pointer (some ⟨gd, 0 + k * 2, none⟩)) rfl (fun w' hw' => exec_indexB 29 49 _ _ rfl gd 0 _ _ rfl .i64 k rfl hlt Trym.underlying29 2 Trym.size49) ?_
        go_frame
        have hBq3 : Blk w3 gd (flatP (partP (ss.zip ts) k)) 49 := Blk.all (w := wr.drew) hBr hb3
        have hpl := partP_length (ss.zip ts) k (by omega)
        refine held_run rfl (wp_storeB 49 _ _ rfl gd (0 + k * 2) rfl (pc (x, y)) rfl _ 49 hBq3 Trym.size49 (by rw [flatP_length, hpl, pc_length]; omega) (pc_ones _) ?_)
        intro w4 hBq4 hg4
        rw [Nat.zero_add, flatP_put _ k _ (by omega), partP_step _ k _ HZ.out] at hBq4
        have hb4 : Below w.heap.size w w4 := ((hbr.drew).trans (hb3.mono hbr.drew.size)).grown hg4 (Nat.le_trans hbr.size hb3.size) (fun q hq => by cases hq; exact hgd)
        refine ⟨hb4, ?_⟩
        show Exit.inBlock _ _ Exit.normal _ _
        go_frame
        clear hBq3 hg4 hb3 hBr hbr
        go_wp2
        go_roundw
        case rel => exact ⟨k + 1, by omega, by go_num, hBq4, hb4⟩
        case measure => simp [intOf]; omega
      · obtain rfl : k = ss.length := by omega
        have e := partP_all (ss.zip ts)
        rw [hzl] at e
        rw [e] at hBr
        clear e
        go_wp2
        go_ret
        exact ⟨_, rfl, .inr ⟨gd, rfl, hBr⟩, hbr⟩
end Go.Proofs.Qxb6603070aMods.M
