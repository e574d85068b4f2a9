import Derived.Test.Qxb6603070aModsDCont
import Derived.Test.Qxb6603070aModsDApp
namespace Go.Proofs.Qxb6603070aMods.M
open Go.RowKit Go.Proofs.Qxb6603070aMods.L

theorem minus_in {L S : List P2} {k : Nat} {p : P2} (hp : L[k]? = some p) (h : inS S p = true) : minus (L.take (k + 1)) S = minus (L.take k) S := by
  rw [take_more hp]
  simp [minus, lacks, h]
theorem minus_out {L S : List P2} {k : Nat} {p : P2} (hp : L[k]? = some p) (h : inS S p = false) : minus (L.take (k + 1)) S = minus (L.take k) S ++ [p] := by
  rw [take_more hp]
  simp [minus, lacks, h]
theorem minus_room {L S : List P2} {k : Nat} : (minus (L.take k) S).length ≤ k := Nat.le_trans (minus_le _ _) (by simp; omega)

set_option maxHeartbeats 3200000 in
/-- zzFilterOut. -/
theorem filterOut_any (a b : Option Addr) (c d : Nat) (L S : List P2) (w : World) (hl : L.length ≤ 262144) (hl2 : S.length ≤ 262144) (hS : Src w a c L) (hT : Src w b d S) (hs : Strict S) :
    Calls Trym.prog 26 #[.slice a L.length c, .slice b S.length d] w fun e w' => ∃ a' c', e = .returned (.slice a' (minus L S).length c') ∧ Src w' a' c' (minus L S) ∧ Below w.heap.size w w' := by
  obtain ⟨fs, hfs⟩ := struct43
  obtain ⟨n, hn⟩ : ∃ n, n = L.length := ⟨_, rfl⟩
  have HS : Hid (Src w a c L) := hS
  have HT : Hid (Src w b d S) := hT
  have HST : Hid (Strict S) := hs
  have HN : Hid (n = L.length) := hn
  rw [← hn] at hl ⊢
  clear hS hT hn hs
  go_enter Trym.func26, Trym.ntmps26
  go_wp2
  go_loopw [5, 6] (fun s5 s6 wr => ∃ k : Nat, k ≤ n ∧ s6 = .int .i64 k ∧ wr.ownsRow w.heap.size 43 2 s5 (minus (L.take k) S).length (flatP (minus (L.take k) S)) ∧ Below w.heap.size w wr)
    (fun _ s6 _ => n - (intOf s6).toNat)
  case atStart => exact ⟨0, Nat.zero_le _, rfl, World.ownsRow_nil _ _ _ _, Below.refl _ _⟩
  case round =>
    obtain ⟨k, hk, rfl, hown, hbr⟩ := hrel
    by_cases hlt : k < n
    · obtain ⟨p, hp⟩ : ∃ p, L[k]? = some p := ⟨_, List.getElem?_eq_getElem (by rw [← HN.out]; exact hlt)⟩
      have HP : Hid (L[k]? = some p) := hp
      obtain ⟨g, rfl, hra⟩ := HS.out.at hp
      have HRA : Hid (∀ w', Below w.heap.size w w' → w'.rangeAt g (k * 2) (pc p)) := hra
      clear hp hra
      go_wp2_with (first
        | ((with_reducible show wpList _ _ _ (Oper.mk _ (Op.load 43 _) _ _ _ _ :: _) _ _); refine wpList_val rfl (exec_loadB 43 _ rfl g (k * 2) rfl (pc p) (HRA.out _ hbr) _ hfs rfl (by rw [pc_length]; exact Trym.size43)) ?_)
        | fail)
      refine (contains_any b d S p wr hl2 (HT.out.all hbr) HST.out).mono ?_
      rintro e wz ⟨rfl, hbq⟩
      have hbz : Below w.heap.size w wz := hbr.trans (hbq.mono hbr.size)
      have hownz : wz.ownsRow w.heap.size 43 2 _ _ _ := own_all hown hbq
      clear hbq hbr hown
      have hroom : (minus (L.take k) S).length ≤ k := minus_room
      cases hin : inS S p with
      | true =>
        have HIN : Hid (inS S p = true) := hin
        clear hin
        go_wp2
        go_roundw
        case rel => exact ⟨k + 1, by omega, by go_num, by rw [minus_in HP.out HIN.out]; exact hownz, hbz⟩
        case measure => simp [intOf]; omega
      | false =>
        have HIN : Hid (inS S p = false) := hin
        clear hin
        obtain ⟨i0, hi, hz0, hz1, hz2⟩ := info_parts Trym.info43
        have HHI : Hid (Trym.prog.info? 43 = some i0) := hi
        have HZ0 : Hid (i0.zero = some (.agg #[.string ByteArray.empty, .string ByteArray.empty])) := hz0
        have HZ1 : Hid (i0.size = 2) := hz1
        have HZ2 : Hid (i0.bytes = 32) := hz2
        clear hi hz0 hz1 hz2
        go_wp2_with (first
          | ((with_reducible show wpList _ _ _ (Oper.mk _ (Op.load 43 _) _ _ _ _ :: _) _ _); refine wpList_val rfl (exec_loadB 43 _ rfl g (k * 2) rfl (pc p) (HRA.out _ hbz) _ hfs rfl (by rw [pc_length]; exact Trym.size43)) ?_)
          | ((with_reducible show wpList _ _ _ (Oper.mk _ (Op.buildSlice 32 _ _) _ _ _ _ :: _) _ _); refine wpList_buildSliceB rfl 32 43 _ rfl (pc p) rfl Trym.underlying32 [.string ByteArray.empty, .string ByteArray.empty] 2 slice43 rfl rfl (by omega) (by omega) ?_; intro gb w7 hgb hBb hgr7; have hown7 := own_grown hownz hgr7 (Classical.em _))
          | (at_builtin; refine wpList_append_own_wide _ rfl _ _ 32 rfl w.heap.size 43 i0 (.agg #[.string ByteArray.empty, .string ByteArray.empty]) 2 32 Trym.underlying32 HHI.out HZ0.out HZ1.out HZ2.out rfl (by omega) _ _ _ rfl hown7 ⟨gb, 0, none⟩ 1 1 (pc p) rfl (by rw [pc_length]) (fun j v hv => by rw [Addr.add_lit, Nat.zero_add, hBb.cell]; exact hv) (pc_ones p) (by unfold maxLen; omega) (by omega) (Nat.le_trans hbz.size hgr7.size) ?_; intro v8 w8 hown8 hgr8 _))
        have hb8 : Below w.heap.size w w8 := (hbz.trans ((grownBelow hgr7).mono hbz.size)).grown hgr8 (Nat.le_trans hbz.size hgr7.size) (fun q hq => row_ge hown7 hq)
        go_roundw
        case rel => exact ⟨k + 1, by omega, by go_num, by rw [minus_out HP.out HIN.out, flatP_append, List.length_append]; simpa [flatP] using hown8, hb8⟩
        case measure => simp [intOf]; omega
    · obtain rfl : k = n := by omega
      rw [show L.take k = L from List.take_of_length_le (by rw [HN.out]; exact Nat.le_refl _)] at hown
      obtain ⟨a', c', hv, hSrc⟩ := Src.grown hown rfl
      subst hv
      go_wp2
      go_ret
      exact ⟨a', c', rfl, hSrc, hbr⟩
end Go.Proofs.Qxb6603070aMods.M
