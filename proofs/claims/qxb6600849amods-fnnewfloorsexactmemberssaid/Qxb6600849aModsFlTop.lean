import Derived.Test.Qxb6600849aModsFlWalks
namespace Go.Proofs.Qxb6600849aMods.Fl
open Go.RowKit Go.Proofs.Qxb6600849aMods.L

theorem guard_small (a : Option Addr) (n cap : Nat) (x : Value) (w : World) (h : n ≤ 1048576) : Calls Trym.prog 12 #[.slice a n cap, x] w fun e w' => e = .returned (.bool true) ∧ w' = w := by
  go_enter Trym.func12, Trym.ntmps12
  go_wp2
  go_ret
  exact ⟨rfl, rfl⟩
theorem guard_big (a : Option Addr) (n cap : Nat) (x : Value) (w : World) (h : 1048576 < n) : Calls Trym.prog 12 #[.slice a n cap, x] w fun e w' => e = .returned (.bool false) ∧ w' = w := by
  go_enter Trym.func12, Trym.ntmps12
  go_wp2
  go_ret
  exact ⟨rfl, rfl⟩

theorem reachedLen {w : World} {p : Nat} {S : List Int} (h : Floors w p S) :
    Calls Trym.prog 14 #[.pointer (some ⟨p, 0, none⟩)] w fun e w' => e = .returned (.int .i64 (keysOf S).length) ∧ w' = w := by
  obtain ⟨m1, m2, m3, kv, h1, h2, h3, h4, h5, h6⟩ := h
  have hc : w.cell? ⟨p, 0, none⟩ = some (.map (some m1)) := by rw [h1.cell]; rfl
  have hlen := fun ty => run_lenB (w := w) (ty := ty) Trym.underlying45 h2
  have e5 : kv.length = (keysOf S).length := by rw [← h5]; simp
  rw [e5] at hlen
  clear h1 h2 h3 h4 h5 h6 e5
  go_enter Trym.func14, Trym.ntmps14
  go_wp2
  go_ret
  exact ⟨rfl, rfl⟩
theorem leftLen {w : World} {p : Nat} {S : List Int} (h : Floors w p S) :
    Calls Trym.prog 15 #[.pointer (some ⟨p, 0, none⟩)] w fun e w' => e = .returned (.int .i64 0) ∧ w' = w := by
  obtain ⟨m1, m2, m3, kv, h1, h2, h3, h4, h5, h6⟩ := h
  have hc : w.cell? ⟨p, 1, none⟩ = some (.map (some m2)) := by rw [h1.cell]; rfl
  have hlen := fun ty => run_lenB (w := w) (ty := ty) Trym.underlying46 h3
  clear h1 h2 h3 h4 h5 h6
  go_enter Trym.func15, Trym.ntmps15
  go_wp2
  go_ret
  exact ⟨rfl, rfl⟩
theorem floorLen {w : World} {p : Nat} {S : List Int} (h : Floors w p S) :
    Calls Trym.prog 16 #[.pointer (some ⟨p, 0, none⟩)] w fun e w' => e = .returned (.int .i64 0) ∧ w' = w := by
  obtain ⟨m1, m2, m3, kv, h1, h2, h3, h4, h5, h6⟩ := h
  have hc : w.cell? ⟨p, 2, none⟩ = some (.map (some m3)) := by rw [h1.cell]; rfl
  have hlen := fun ty => run_lenB (w := w) (ty := ty) Trym.underlying47 h4
  clear h1 h2 h3 h4 h5 h6
  go_enter Trym.func16, Trym.ntmps16
  go_wp2
  go_ret
  exact ⟨rfl, rfl⟩

theorem run_len_nil (w : World) (t kt et ty : TypeId) (ht : Trym.prog.underlying t = some (.map kt et)) : (Builtin.len_ #[t] ty #[.map none]).run Trym.prog w = .ok (.int .i64 0) w := by
  simp [Builtin.len_, run_underlying ht, goInt]

theorem reached_any {w : World} {p : Nat} {S : List Int} (h : Floors w p S) (x : Int) :
    Calls Trym.prog 17 #[.pointer (some ⟨p, 0, none⟩), .int .u64 x] w fun e w' => e = .returned (.tuple #[.bool (decide (x ∈ S)), .int .i64 0]) ∧ w' = w := by
  obtain ⟨m1, m2, m3, kv, h1, h2, h3, h4, h5, h6⟩ := h
  have hc : w.cell? ⟨p, 0, none⟩ = some (.map (some m1)) := by rw [h1.cell]; rfl
  by_cases hx : x ∈ S
  · obtain ⟨y, hy, hym⟩ := look_in h5 hx
    obtain ⟨g, hg, hMg⟩ := h6 _ hym
    simp only at hg
    have hlen := fun ty => run_lenB (w := w) (ty := ty) Trym.underlying47 hMg
    rw [decide_eq_true hx]
    have HV : Hid ((atKey x kv 0) = some (y.1, .map (some g))) := by rw [← hg]; exact hy
    clear h1 h3 h4 h5 h6 hym hy hg hMg hx
    go_enter Trym.func17, Trym.ntmps17
    go_wp2_with (first
      | ((with_reducible show wpList _ _ _ (Oper.mk _ (Op.lookup 45 _ _ _) _ _ _ _ :: _) _ _); refine wpList_lookupV rfl 45 _ _ true rfl 39 47 Trym.underlying45 keys39 m1 rfl _ h2 x rfl (.map none) Trym.zero47 (.tuple #[.map (some g), .bool true]) (by rw [if_pos rfl, HV.out]; rfl) ?_)
      | fail)
    go_ret2
    exact ⟨rfl, rfl⟩
  · have hy := look_out h5 hx
    have hlen := fun ty => run_len_nil w 47 _ _ ty Trym.underlying47
    rw [decide_eq_false hx]
    have HV : Hid ((atKey x kv 0) = none) := hy
    clear h1 h3 h4 h5 h6 hy hx
    go_enter Trym.func17, Trym.ntmps17
    go_wp2_with (first
      | ((with_reducible show wpList _ _ _ (Oper.mk _ (Op.lookup 45 _ _ _) _ _ _ _ :: _) _ _); refine wpList_lookupV rfl 45 _ _ true rfl 39 47 Trym.underlying45 keys39 m1 rfl _ h2 x rfl (.map none) Trym.zero47 (.tuple #[.map none, .bool false]) (by rw [if_pos rfl, HV.out]; rfl) ?_)
      | fail)
    go_ret2
    exact ⟨rfl, rfl⟩

def partC (zs : List Int) (k : Nat) : List Value := (zs.take k).map (Value.int .u64) ++ List.replicate (zs.length - k) (Value.int .u64 0)
theorem partC_length (zs : List Int) (k : Nat) (hk : k ≤ zs.length) : (partC zs k).length = zs.length := by simp [partC]; omega
theorem partC_step (zs : List Int) (k : Nat) (x : Int) (h : zs[k]? = some x) : (partC zs k).set k (.int .u64 x) = partC zs (k + 1) := by
  obtain ⟨h1, h2⟩ := List.getElem?_eq_some_iff.1 h
  unfold partC
  rw [take_snoc zs k x h, show zs.length - k = (zs.length - (k + 1)) + 1 from by omega, List.replicate_succ, List.set_append, if_neg (by simp; omega)]
  have e : k - ((zs.take k).map (Value.int .u64)).length = 0 := by simp; omega
  rw [e, List.set_cons_zero]
  simp
theorem partC_all (zs : List Int) : partC zs zs.length = zs.map (Value.int .u64) := by simp [partC]
theorem partC_zero (zs : List Int) : partC zs 0 = List.replicate zs.length (Value.int .u64 0) := by simp [partC]

set_option maxHeartbeats 1600000 in
/-- ZZnewFloors. -/
theorem zzNew_any (a : Option Addr) (zs : List Int) (w : World) (hl : zs.length ≤ 4096) (hR : Row 28 w a zs) :
    Calls Trym.prog 13 #[.slice a zs.length zs.length] w fun e w' => ∃ p, e = .returned (.pointer (some ⟨p, 0, none⟩)) ∧ Floors w' p zs ∧ Below w.heap.size w w' := by
  have hnil := fun (w : World) (t e : TypeId) (h : Trym.prog.underlying t = some (.slice e)) => run_neq_slice_nil_any (P := Trym.prog) w t e a zs.length zs.length 0 0 h
  have hn2 := fun (w : World) => hnil w 31 28 Trym.underlying31
  clear hnil
  rcases hR with ⟨rfl, rfl⟩ | ⟨g, rfl, hB⟩
  · go_enter Trym.func13, Trym.ntmps13
    go_wp2_with fail
    refine (newFloors_any none [] w (by simp) (.inl ⟨rfl, rfl⟩)).mono ?_
    rintro e w1 ⟨p, rfl, hF, hb⟩
    go_wp2
    go_ret
    exact ⟨p, rfl, hF, hb⟩
  · have HB : Hid (Blk w g (zs.map (Value.int .u64)) 28) := hB
    clear hB
    go_enter Trym.func13, Trym.ntmps13
    go_wp2_with (first | (at_make; refine wpList_makeB rfl _ _ 43 rfl 39 (.int .u64 0) [.int .u64 0] rfl 1 8 rfl Trym.underlying43 Trym.info39 _ _ _ _ zs.length rfl rfl rfl rfl (by omega) (by unfold maxLen; omega) ?_; intro gd w1 hgd hBd hgr1) | fail)
    replace hBd : Blk w1 gd (partC zs 0) 39 := by rw [partC_zero]; first | exact hBd | simpa [flat_one_cells] using hBd
    have hb1 := grownBelow hgr1
    go_loopw [4] (fun i wr => ∃ k : Nat, k ≤ zs.length ∧ i = .int .i64 k ∧ Blk wr gd (partC zs k) 39 ∧ Below w.heap.size w wr)
      (fun i _ => zs.length - (intOf i).toNat)
    case atStart => exact ⟨0, Nat.zero_le _, rfl, hBd, hb1⟩
    case round =>
      obtain ⟨k, hk, rfl, hBr, hbr⟩ := hrel
      clear hBd hgr1 hb1
      by_cases hlt : k < zs.length
      · obtain ⟨x, hx⟩ : ∃ x, zs[k]? = some x := ⟨_, List.getElem?_eq_getElem hlt⟩
        have hcr : wr.cell? ⟨g, k, none⟩ = some (.int .u64 x) := by rw [(HB.out.all hbr).cell, List.getElem?_map, hx]; rfl
        have HX : Hid (zs[k]? = some x) := hx
        clear hx
        go_wp2_with (first | ((with_reducible show wpList _ _ _ (Oper.mk _ (Op.store 39 _ _) _ _ _ _ :: _) _ _); refine wpList_store1B rfl 39 _ _ rfl gd k rfl (.int .u64 x) rfl rfl rfl _ 39 hBr Trym.size39 (by rw [partC_length zs k hk]; exact hlt) ?_; intro w4 hB4 hg4) | fail)
        rw [partC_step zs k x HX.out] at hB4
        go_roundw
        case rel => exact ⟨k + 1, by omega, by go_num, hB4, hbr.grown hg4 hbr.size (fun q hq => by cases hq; exact hgd)⟩
        case measure => simp [intOf]; omega
      · obtain rfl : k = zs.length := by omega
        rw [partC_all] at hBr
        go_wp2_with fail
        refine (newFloors_any (some ⟨gd, 0, none⟩) zs wr hl (.inr ⟨gd, rfl, hBr⟩)).mono ?_
        rintro e w5 ⟨p, rfl, hF, hb5⟩
        go_wp2
        go_ret
        exact ⟨p, rfl, hF, hbr.trans (hb5.mono hbr.size)⟩
end Go.Proofs.Qxb6600849aMods.Fl
