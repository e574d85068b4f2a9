import Derived.Test.Qxb6000998aModsRows
import Derived.Test.Qxb6000998aModsLaws
import Derived.OpenShut
import Derived.WalkSpells
import Derived.WalkLawsBesides
import Derived.Deep.QuietTactic
import Derived.BigQuiet
import Derived.Laws.BytesArg
namespace Go.Proofs.Qxb6000998aMods.J
open Go.RowKit Go.Proofs.Qxb6000998aMods.L

theorem Trym.info5 : (Trym.prog.info? 5).map (fun i => (i.zero, i.size, i.bytes)) = some (some (.int .u8 0), 1, 1) := by kernel_rfl

/-- A slice of bytes of the call's own: nil, or a whole block. -/
def Bytes (w : World) (v : Value) (zs : List Int) : Prop := (v = .slice none 0 0 ∧ zs = []) ∨ ∃ g, v = .slice (some ⟨g, 0, none⟩) zs.length zs.length ∧ Blk w g (zs.map (Value.int .u8)) 5

theorem Bytes.all {w w' : World} {v : Value} {zs : List Int} (h : Bytes w v zs) (b : Below w.heap.size w w') : Bytes w' v zs := by
  rcases h with h | ⟨g, hv, hg⟩
  · exact .inl h
  · exact .inr ⟨g, hv, hg.all b⟩
theorem Bytes.drew {w : World} {v : Value} {zs : List Int} (h : Bytes w v zs) (n : Nat) : Bytes (w.drewN n) v zs := by
  rcases h with h | ⟨g, hv, hg⟩
  · exact .inl h
  · exact .inr ⟨g, hv, hg.drew n⟩
theorem Bytes.one {w : World} {v : Value} {zs : List Int} (h : Bytes w v zs) : v.oneCell' = true := by
  rcases h with ⟨rfl, _⟩ | ⟨g, rfl, _⟩ <;> rfl

theorem clone_nil (w : World) :
    Calls Trym.prog 9 #[.slice none 0 0] w fun e w' => ∃ v, e = .returned v ∧ Bytes w' v [] ∧ Below w.heap.size w w' := by
  have hnil := fun (w : World) => Lib.run_eql_slice_nil (P := Trym.prog) w 24 5 none 0 0 0 0 Trym.underlying24
  go_enter Trym.func9, Trym.ntmps9
  go_wp2
  go_ret
  exact ⟨_, rfl, .inl ⟨rfl, rfl⟩, Below.refl _ _⟩

/-- What the clone's loop has made after k rounds: the first k numbers, then noughts. -/
def partI (zs : List Int) (len k : Nat) : List Int := zs.take k ++ List.replicate (len - k) 0
theorem partI_length (zs : List Int) (len k : Nat) (hk : k ≤ len) (hx : len ≤ zs.length) : (partI zs len k).length = len := by simp [partI]; omega
theorem partI_step (zs : List Int) (len k : Nat) (hk : k < len) (hx : len ≤ zs.length) (x : Int) (h : zs[k]? = some x) : (partI zs len k).set k x = partI zs len (k + 1) := by
  have hkl : k < zs.length := by omega
  have e : len - k = (len - (k + 1)) + 1 := by omega
  have ex : zs[k] = x := by rw [List.getElem?_eq_getElem hkl] at h; exact Option.some.inj h
  unfold partI
  rw [e, List.replicate_succ, List.set_append]
  rw [if_neg (by simp; omega)]
  have e2 : k - (zs.take k).length = 0 := by simp; omega
  rw [e2, List.set_cons_zero, List.take_succ_eq_append_getElem hkl, ex]
  simp
theorem partI_all (zs : List Int) (len : Nat) : partI zs len len = zs.take len := by simp [partI]
theorem made_ints (k : IntKind) (n : Nat) : (madeCells #[Value.int k 0] n).toList = (List.replicate n 0).map (Value.int k) := by
  apply List.ext_getElem
  · simp [madeCells]
  · intro i h1 h2
    simp [madeCells, Nat.mod_one]

/-- 'make' of a row of integers: a new block. -/
theorem wpList_makeI {P : Program} {ops : Array Oper} {rest : List Oper} {o : Oper} {a : Act} {w : World} {Q : Exit → Act → World → Prop}
    (hgd : o.guard = none) (l c : Operand) (t : TypeId) (hop : o.op = Op.makeSlice t l c) (e : TypeId) (k : IntKind) (bytes : Nat) (h1 : P.underlying t = some (.slice e)) (h2 : (P.info? e).map (fun i => (i.zero, i.size, i.bytes)) = some (some (.int k 0), 1, bytes))
    (kl kc : IntKind) (L C : Int) (n : Nat) (hl : a.eval l = .int kl L) (hc : a.eval c = .int kc C) (hL : L = (n : Int)) (hC : C = (n : Int)) (b2 : bytes * n ≤ 281474976710656) (b3 : n ≤ maxLen)
    (hK : ∀ g w', w.heap.size ≤ g → Blk w' g ((List.replicate n 0).map (Value.int k)) e → w.grownBy w' none → wpList P ops Q rest (a.put o.dst (.slice (some ⟨g, 0, none⟩) n n)) w') :
    wpList P ops Q (o :: rest) a w := by
  obtain ⟨i, hi, hz0, hz1, hz2⟩ := info_parts h2
  refine wpList_make_full w hgd l c t hop w.heap.size e i (.int k 0) 1 h1 hi hz0 hz1 kl kc L C n hl hc hL hC (by rw [hz2]; exact b2) b3 (Nat.le_refl _) ?_
  intro w' hown hgrow
  refine hK w.heap.size w' (Nat.le_refl _) ?_ hgrow
  rcases hown.2 with ⟨hh, _⟩ | ⟨g, cap, cur, hv, _, hg, _, _, hcs, htake⟩
  · simp at hh
  · simp only [Value.slice.injEq, Option.some.injEq, Addr.mk.injEq, and_true, true_and] at hv
    obtain ⟨rfl, rfl⟩ := hv
    unfold Blk
    rw [hg]
    have e1 : cur.toList = (List.replicate n 0).map (Value.int k) := by
      have e2 : cur.toList.take (n * 1) = cur.toList := List.take_of_length_le (by rw [Array.length_toList, hcs]; exact Nat.le_refl _)
      rw [← e2, htake, Nat.mul_one]
      simpa [Value.cells] using made_ints k n
    rw [← e1]

set_option maxHeartbeats 800000 in
theorem clone_any (b off len cap : Nat) (zs : List Int) (w : World) (hlen : len ≤ 1048576) (hz : len ≤ zs.length) (hbw : b < w.heap.size)
    (hc : ∀ j, j < len → w.cell? ⟨b, off + j, none⟩ = some (.int .u8 (zs.getD j 0))) :
    Calls Trym.prog 9 #[.slice (some ⟨b, off, none⟩) len cap] w fun e w' => ∃ v, e = .returned v ∧ Bytes w' v (zs.take len) ∧ Below w.heap.size w w' := by
  have hnil := fun (w : World) => Lib.run_eql_slice_nil (P := Trym.prog) w 24 5 (some ⟨b, off, none⟩) len cap 0 0 Trym.underlying24
  go_enter Trym.func9, Trym.ntmps9
  go_wp2_with (first | (at_make; refine wpList_makeI rfl _ _ 24 rfl 5 .u8 1 Trym.underlying24 Trym.info5 _ _ _ _ len rfl rfl rfl rfl (by omega) (by unfold maxLen; omega) ?_) | fail)
  intro g w1 hg hblk hgrow
  have hb1 := grownBelow hgrow
  go_wp2
  go_loopw [4] (fun i wr => ∃ k : Nat, k ≤ len ∧ i = .int .i64 k ∧ Blk wr g ((partI zs len k).map (Value.int .u8)) 5 ∧ Below w.heap.size w wr)
    (fun i _ => len - (intOf i).toNat)
  case atStart => exact ⟨0, Nat.zero_le _, rfl, by simpa [partI] using hblk, hb1⟩
  case round =>
    obtain ⟨k, hk, rfl, hown, hbel⟩ := hrel
    clear hblk hgrow hb1
    by_cases hlt : k < len
    · have hcx : wr.cell? ⟨b, off + k, none⟩ = some (.int .u8 (zs.getD k 0)) := (hbel.cell (by exact hbw)).trans (hc k hlt)
      have hlp : k < (partI zs len k).length := by rw [partI_length _ _ _ hk hz]; exact hlt
      obtain ⟨z, hz1⟩ : ∃ z, z = zs.getD k 0 := ⟨_, rfl⟩
      have hz2 : zs[k]? = some z := by rw [hz1]; simp [List.getD, show k < zs.length by omega]
      rw [← hz1] at hcx
      have hcy := hown.cell k
      rw [List.getElem?_eq_getElem (by simpa using hlp)] at hcy
      have hfy := hown.frozen k
      obtain ⟨hs1, hs2⟩ := setCells_blk hown k [.int .u8 z] (by simp; omega)
      rw [putL_single _ _ _ (by simpa using hlp)] at hs1
      have e3 : ((partI zs len k).map (Value.int .u8)).set k (.int .u8 z) = (partI zs len (k + 1)).map (Value.int .u8) := by rw [← partI_step zs len k hlt hz z hz2, List.map_set]
      rw [e3] at hs1
      have HS1 : Hid (Blk (wr.setCell ⟨g, k, none⟩ (.int .u8 z)) g ((partI zs len (k + 1)).map (Value.int .u8)) 5) := hs1
      clear hown hs1 hs2 hz1 hz2 e3 hc
      go_wp2
      go_roundw
      case rel => exact ⟨k + 1, by omega, by go_num, HS1.out, hbel.setCell hg _⟩
      case measure => simp [intOf]; omega
    · go_wp2
      go_ret
      obtain rfl : k = len := by omega
      rw [partI_all] at hown
      exact ⟨_, rfl, .inr ⟨g, by simp; omega, hown⟩, hbel⟩

set_option maxHeartbeats 800000 in
theorem clone_empty (x : Addr) (cap : Nat) (w : World) :
    Calls Trym.prog 9 #[.slice (some x) 0 cap] w fun e w' => ∃ v, e = .returned v ∧ Bytes w' v [] ∧ Below w.heap.size w w' := by
  have hnil := fun (w : World) => Lib.run_eql_slice_nil (P := Trym.prog) w 24 5 (some x) 0 cap 0 0 Trym.underlying24
  go_enter Trym.func9, Trym.ntmps9
  go_wp2_with (first | (at_make; refine wpList_makeI rfl _ _ 24 rfl 5 .u8 1 Trym.underlying24 Trym.info5 _ _ _ _ 0 rfl rfl rfl rfl (by omega) (by unfold maxLen; omega) ?_) | fail)
  intro g w1 hg hblk hgrow
  have hb1 := grownBelow hgrow
  go_wp2
  refine wp_loop_rounds 1 ?_
  rw [rounds_succ]
  go_wp2
  go_ret
  exact ⟨_, rfl, .inr ⟨g, rfl, by simpa using hblk⟩, hb1⟩

theorem str_inj (zs ys : List Int) (hz : ∀ n ∈ zs, 0 ≤ n ∧ n ≤ 255) (hy : ∀ n ∈ ys, 0 ≤ n ∧ n ≤ 255) : ((strOfNums zs).toList == (strOfNums ys).toList) = (zs == ys) := by
  rw [ByteArray.toList_eq, ByteArray.toList_eq, strOfNums_data, strOfNums_data]
  rw [Bool.eq_iff_iff]
  simp only [beq_iff_eq]
  constructor
  · intro h2
    have hl : zs.length = ys.length := by simpa using congrArg List.length h2
    apply List.ext_getElem hl
    intro i h1 h3
    have h4 : (zs.map fun n => UInt8.ofNat n.toNat)[i]? = (ys.map fun n => UInt8.ofNat n.toNat)[i]? := by rw [h2]
    simp [h1, h3] at h4
    have a1 := hz _ (List.getElem_mem h1)
    have a2 := hy _ (List.getElem_mem h3)
    have h5 := congrArg UInt8.toNat h4
    simp at h5
    omega
  · intro h; rw [h]

theorem conv_bytes {w : World} {v : Value} {zs : List Int} (h : Bytes w v zs) : (convert 24 9 v).run Trym.prog w = .ok (.string (strOfNums zs)) w := by
  rcases h with ⟨rfl, rfl⟩ | ⟨g, rfl, hg⟩
  · exact run_convert_bytes_nil w 24 5 Trym.underlying24 Trym.underlying5 0 0 9 Trym.underlying9
  · refine run_convert_bytes_arg w 24 5 Trym.underlying24 Trym.underlying5 g 0 zs.length zs.length zs rfl ?_ 9 Trym.underlying9
    intro i hi
    rw [Nat.zero_add, hg.cell]
    simp [List.getD, hi]

/-- bytes.Equal. -/
theorem equal_any (v v' : Value) (zs ys : List Int) (w : World) (h1 : Bytes w v zs) (h2 : Bytes w v' ys) (hz : ∀ n ∈ zs, 0 ≤ n ∧ n ≤ 255) (hy : ∀ n ∈ ys, 0 ≤ n ∧ n ≤ 255) :
    Calls Trym.prog 30 #[v, v'] w fun e w' => e = .returned (.bool (zs == ys)) ∧ w' = w := by
  have c1 := conv_bytes h1
  have c2 := conv_bytes h2
  have e := str_inj zs ys hz hy
  go_enter Trym.func30, Trym.ntmps30
  go_wp2
  go_ret
  exact ⟨rfl, rfl⟩
end Go.Proofs.Qxb6000998aMods.J
