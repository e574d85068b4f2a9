import Derived.Test.Qxb6000998aModsEEntries
namespace Go.Proofs.Qxb6000998aMods.E
open Go.RowKit Go.Proofs.Qxb6000998aMods.L

theorem run_res (b n : Nat) (w : World) : (Instr.build 74 #[(1, .slice (some ⟨b, 0, none⟩) n n)]).run Trym.prog w = .ok (.agg #[.int .u64 0, .slice (some ⟨b, 0, none⟩) n n]) w := by kernel_rfl
theorem run_prop (b n : Nat) (w : World) : (Instr.build 76 #[(2, .agg #[.int .u64 0, .slice (some ⟨b, 0, none⟩) n n])]).run Trym.prog w = .ok (.agg (prop b n).toArray) w := by kernel_rfl

theorem zz_empty (a : Option Addr) (cap : Nat) (w : World) :
    Calls Trym.prog 19 #[.slice a 0 cap] w fun e w' => ∃ v, e = .returned v ∧ w'.ownsRow w.heap.size 58 228 v (dd []).length (flat (dd [])) ∧ Below w.heap.size w w' := by
  go_enter Trym.func19, Trym.ntmps19
  go_wp2_with (first | (at_make; refine wpList_makeB rfl _ _ 71 rfl 72 (.pointer none) [.pointer none] rfl 1 8 rfl Trym.underlying71 Trym.info72 _ _ _ _ 0 rfl rfl rfl rfl (by omega) (by unfold maxLen; omega) ?_; intro g w1 hg hblk hgrow) | fail)
  have hb1 := grownBelow hgrow
  refine wp_loop_rounds 1 ?_
  rw [rounds_succ]
  go_wp2_with fail
  have hP : Props w1 g [] [] := ⟨by simpa using hblk, rfl, fun i p L h => by simp at h⟩
  have H := entries_any g [] [] w1 (by simp) (by simp) hP
  refine Calls.mono H ?_
  rintro e w2 ⟨v, rfl, hown, hb2⟩
  clear H hP
  go_wp2
  go_ret
  refine ⟨_, rfl, ?_, hb1.trans (hb2.mono hb1.size)⟩
  exact own_base hown hb1.size

set_option maxHeartbeats 4000000 in
theorem zz_any (g cap : Nat) (vs : List Value) (R : List (List (Int × Int))) (w : World) (hR : R.length ≤ 65537) (hn : R.flatten.length ≤ 65536) (hB : Blk w g vs 48) (hl : R.length ≤ vs.length)
    (hrow : ∀ (i : Nat) u L, vs[i]? = some u → R[i]? = some L → ERow w u L) :
    Calls Trym.prog 19 #[.slice (some ⟨g, 0, none⟩) R.length cap] w fun e w' => ∃ v, e = .returned v ∧ w'.ownsRow w.heap.size 58 228 v (dd R.flatten).length (flat (dd R.flatten)) ∧ Below w.heap.size w w' := by
  go_enter Trym.func19, Trym.ntmps19
  go_wp2_with (first | (at_make; refine wpList_makeB rfl _ _ 71 rfl 72 (.pointer none) [.pointer none] rfl 1 8 rfl Trym.underlying71 Trym.info72 _ _ _ _ R.length rfl rfl rfl rfl (by omega) (by unfold maxLen; omega) ?_; intro gd w1 hgd hBd hgr1) | fail)
  replace hBd : Blk w1 gd (List.replicate R.length (Value.pointer none)) 72 := by first | exact hBd | simpa [flat_one_cells] using hBd
  have hb1 := grownBelow hgr1
  go_loopw [4] (fun i wr => ∃ (k : Nat) (ps : List Nat), k ≤ R.length ∧ i = .int .i64 k ∧ ps.length = k ∧ Blk wr gd ((ps.map fun p => Value.pointer (some ⟨p, 0, none⟩)) ++ List.replicate (R.length - k) (Value.pointer none)) 72 ∧
      (∀ (i : Nat) p L, ps[i]? = some p → R[i]? = some L → ∃ b, Blk wr p (prop b L.length) 76 ∧ Blk wr b (flat L) 58) ∧ Below w.heap.size w wr)
    (fun i _ => R.length - (intOf i).toNat)
  case atStart => exact ⟨0, [], Nat.zero_le _, rfl, rfl, by simpa using hBd, fun i p L h => by simp at h, hb1⟩
  case round =>
    obtain ⟨k, ps, hk, rfl, hpl, hown, hprops, hbel⟩ := hrel
    clear hBd hgr1 hb1
    by_cases hlt : k < R.length
    · obtain ⟨L, hL⟩ : ∃ L, R[k]? = some L := ⟨_, List.getElem?_eq_getElem hlt⟩
      obtain ⟨u, hu⟩ : ∃ u, vs[k]? = some u := ⟨_, List.getElem?_eq_getElem (by omega)⟩
      obtain ⟨b, rfl, hBb⟩ := hrow k u L hu hL
      have hcu : wr.cell? ⟨g, k, none⟩ = some (.slice (some ⟨b, 0, none⟩) L.length L.length) := by rw [(hB.all hbel).cell]; exact hu
      have HL : Hid (R[k]? = some L) := hL
      have HBb : Hid (Blk wr b (flat L) 58) := hBb.all hbel
      clear hL hu hBb
      obtain ⟨n, hn'⟩ : ∃ n, n = L.length := ⟨_, rfl⟩
      rw [← hn'] at hcu
      have HN : Hid (n = L.length) := hn'
      clear hn'
      go_wp2_with (first
        | ((with_reducible show wpList _ _ _ (Oper.mk _ (Op.build 74 _) _ _ _ _ :: _) _ _); refine wpList_val rfl (exec_of_build 74 _ rfl (by simp [Act.eval]) (run_res b n _)) ?_)
        | ((with_reducible show wpList _ _ _ (Oper.mk _ (Op.build 76 _) _ _ _ _ :: _) _ _); refine wpList_val rfl (exec_of_build 76 _ rfl (by simp [Act.eval, Act.put]) (run_prop b n _)) ?_)
        | ((with_reducible show wpList _ _ _ (Oper.mk _ (Op.box 76 _) _ _ _ _ :: _) _ _); refine wpList_boxB rfl 76 _ rfl _ (prop b n) rfl rfl ?_; intro gp w2 hgp hBp hgr2; have hown2 := hown.kept hgr2)
        | ((with_reducible show wpList _ _ _ (Oper.mk _ (Op.store 72 _ _) _ _ _ _ :: _) _ _); refine wpList_store1B rfl 72 _ _ rfl gd k rfl (.pointer (some ⟨gp, 0, none⟩)) rfl rfl rfl _ 72 hown2 Trym.size72 (by simp; omega) ?_; intro w3 hown3 hgr3))
      rw [set_mid (ps.map fun p => Value.pointer (some ⟨p, 0, none⟩)) R.length k _ _ (by simpa using hpl) hlt] at hown3
      have no76 := not_other hown2 (by decide : (72 : TypeId) ≠ 76)
      have no58 := not_other hown2 (by decide : (72 : TypeId) ≠ 58)
      have kp : ∀ {x C}, Blk wr x C 76 → Blk w3 x C 76 := fun {x C} h => (h.kept hgr2).grown hgr3 (fun e => by cases e; exact no76 _ (h.kept hgr2))
      have kb : ∀ {x C}, Blk wr x C 58 → Blk w3 x C 58 := fun {x C} h => (h.kept hgr2).grown hgr3 (fun e => by cases e; exact no58 _ (h.kept hgr2))
      have hb3 : Below w.heap.size w w3 := (hbel.trans ((grownBelow hgr2).mono hbel.size)).grown hgr3 (Nat.le_trans hbel.size hgr2.size) (fun q hq => by cases hq; exact hgd)
      have hp3 : ∀ (i : Nat) p L, (ps ++ [gp])[i]? = some p → R[i]? = some L → ∃ b, Blk w3 p (prop b L.length) 76 ∧ Blk w3 b (flat L) 58 := by
        intro i p' L' hp' hL'
        by_cases hi : i < k
        · rw [List.getElem?_append_left (by omega)] at hp'
          obtain ⟨b', k1, k2⟩ := hprops i p' L' hp' hL'
          exact ⟨b', kp k1, kb k2⟩
        · rw [List.getElem?_append_right (by omega)] at hp'
          by_cases h2 : i = k
          · subst h2
            rw [hpl, Nat.sub_self] at hp'
            simp at hp'
            subst hp'
            rw [HL.out] at hL'
            cases hL'
            refine ⟨b, ?_, kb HBb.out⟩
            rw [← HN.out]
            exact hBp.grown hgr3 (fun e => by cases e; exact no76 _ hBp)
          · rw [List.getElem?_eq_none (by simp; omega)] at hp'
            cases hp'
      go_roundw
      case rel => exact ⟨k + 1, ps ++ [gp], by omega, by go_num, by simp [hpl], by simpa using hown3, hp3, hb3⟩
      case measure => simp [intOf]; omega
    · obtain rfl : k = R.length := by omega
      rw [Nat.sub_self, List.replicate_zero, List.append_nil] at hown
      go_wp2_with fail
      have H := entries_any gd ps R wr hR hn ⟨hown, hpl, hprops⟩
      refine Calls.mono H ?_
      rintro e w2 ⟨v, rfl, hown2, hb2⟩
      clear H
      go_wp2
      go_ret
      exact ⟨_, rfl, own_base hown2 hbel.size, hbel.trans (hb2.mono hbel.size)⟩
end Go.Proofs.Qxb6000998aMods.E
