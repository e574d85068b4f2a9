import Derived.Test.Qxb6600849aModsRows
import Derived.Test.Qxb6600849aModsFlPlain
import Derived.OpenShut
import Derived.WalkSpells
import Derived.WalkLawsBesides
import Derived.Deep.QuietTactic
import Derived.Maps.RangeWalk
namespace Go.Proofs.Qxb6600849aMods.Fl
open Go.RowKit Go.Proofs.Qxb6600849aMods.L

theorem Trym.info39 : (Trym.prog.info? 39).map (fun i => (i.zero, i.size, i.bytes)) = some (some (.int .u64 0), 1, 8) := by kernel_rfl
theorem Trym.info28 : (Trym.prog.info? 28).map (fun i => (i.zero, i.size, i.bytes)) = some (some (.int .u64 0), 1, 8) := by kernel_rfl
theorem Trym.size39 : (Trym.prog.info? 39).map (·.size) = some 1 := by kernel_rfl
theorem Trym.size28 : (Trym.prog.info? 28).map (·.size) = some 1 := by kernel_rfl
theorem Trym.zero47 : (Trym.prog.info? 47).map (·.zero) = some (some (.map none)) := by kernel_rfl
def KU (a : Int) : Value := .int .u64 a
theorem keys39 : Keys Trym.prog 39 KU := keys_int Trym.underlying39
theorem run49 (m1 m2 m3 : Nat) (w : World) : (Instr.build 49 #[(0, .map (some m1)), (1, .map (some m2)), (2, .map (some m3))]).run Trym.prog w = .ok (.agg #[.map (some m1), .map (some m2), .map (some m3)]) w := by kernel_rfl
theorem exec_of_build {P : Program} {o : Oper} {a : Act} {w : World} {u : Value} (t : TypeId) (ps : Array (Nat × Operand)) (ho : o.op = .build t ps) {parts : Array (Nat × Value)} (hps : (ps.map fun (x : Nat × Operand) => (x.1, a.eval x.2)) = parts) (h : (Instr.build t parts).run P w = .ok u w) : (execOp a.eval o).run P w = .ok (.value u) w := by
  rw [← hps] at h
  simp only [execOp, ho]
  simp [h]
theorem flat_one_cells (n : Nat) (v : Value) : (List.replicate n [v]).flatten = List.replicate n v := by
  induction n with
  | zero => rfl
  | succ n ih => rw [List.replicate_succ, List.flatten_cons, ih, List.replicate_succ]; rfl
theorem blk_ne_map {α : Type} {w : World} {b m : Nat} {C : List Value} {t : TypeId} {K : α → Value} {kv : List (α × Value)} (h : Blk w b C t) (hm : MapB w m K kv) : b ≠ m := by
  rintro rfl
  obtain ⟨es, c, h1, _⟩ := hm
  unfold Blk at h
  rw [h] at h1
  simp at h1

/-- A row of numbers of the call's own. -/
def Row (t : TypeId) (w : World) (a : Option Addr) (zs : List Int) : Prop := (a = none ∧ zs = []) ∨ ∃ g, a = some ⟨g, 0, none⟩ ∧ Blk w g (zs.map (Value.int .u64)) t
theorem Row.all {t : TypeId} {w w' : World} {a : Option Addr} {zs : List Int} (h : Row t w a zs) (b : Below w.heap.size w w') : Row t w' a zs := by
  rcases h with h | ⟨g, ha, hg⟩
  · exact .inl h
  · exact .inr ⟨g, ha, hg.all b⟩
theorem Row.at {t : TypeId} {w : World} {a : Option Addr} {zs : List Int} (h : Row t w a zs) {j : Nat} {x : Int} (hx : zs[j]? = some x) : ∃ g, a = some ⟨g, 0, none⟩ ∧ w.cell? ⟨g, j, none⟩ = some (.int .u64 x) := by
  rcases h with ⟨_, rfl⟩ | ⟨g, ha, hg⟩
  · simp at hx
  · exact ⟨g, ha, by rw [hg.cell, List.getElem?_map, hx]; rfl⟩

/-- The floors, whose members are those of S. -/
def Floors (w : World) (p : Nat) (S : List Int) : Prop :=
  ∃ m1 m2 m3 kv, Blk w p [.map (some m1), .map (some m2), .map (some m3)] 49 ∧ MapB w m1 KU kv ∧ MapB w m2 KU [] ∧ MapB w m3 KU [] ∧ kv.map (fun q : Int × Value => q.1) = keysOf S ∧ ∀ q ∈ kv, ∃ g, q.2 = .map (some g) ∧ MapB w g KU []
theorem Floors.all {w w' : World} {p : Nat} {S : List Int} (h : Floors w p S) (b : Below w.heap.size w w') : Floors w' p S := by
  obtain ⟨m1, m2, m3, kv, h1, h2, h3, h4, h5, h6⟩ := h
  exact ⟨m1, m2, m3, kv, h1.all b, h2.all b, h3.all b, h4.all b, h5, fun q hq => by obtain ⟨g, e, hg⟩ := h6 q hq; exact ⟨g, e, hg.all b⟩⟩

theorem take_snoc (zs : List Int) (k : Nat) (x : Int) (h : zs[k]? = some x) : zs.take (k + 1) = zs.take k ++ [x] := by
  obtain ⟨h1, h2⟩ := List.getElem?_eq_some_iff.1 h
  rw [List.take_succ_eq_append_getElem h1, h2]

set_option maxHeartbeats 1600000 in
/-- newFloors. -/
theorem newFloors_any (a : Option Addr) (zs : List Int) (w : World) (hl : zs.length ≤ 4096) (hR : Row 39 w a zs) :
    Calls Trym.prog 21 #[.slice a zs.length zs.length] w fun e w' => ∃ p, e = .returned (.pointer (some ⟨p, 0, none⟩)) ∧ Floors w' p zs ∧ Below w.heap.size w w' := by
  have HR : Hid (Row 39 w a zs) := hR
  clear hR
  go_enter Trym.func21, Trym.ntmps21
  go_wp2_with (first
    | ((with_reducible show wpList _ _ _ (Oper.mk _ (Op.makeMap 45 _) _ _ _ _ :: _) _ _); refine wpList_makeMapB KU rfl 45 rfl ?_; intro m1 w1 hm1 hM1 hgr1)
    | ((with_reducible show wpList _ _ _ (Oper.mk _ (Op.makeMap 46 _) _ _ _ _ :: _) _ _); refine wpList_makeMapB KU rfl 46 rfl ?_; intro m2 w2 hm2 hM2 hgr2)
    | ((with_reducible show wpList _ _ _ (Oper.mk _ (Op.makeMap 47 _) _ _ _ _ :: _) _ _); refine wpList_makeMapB KU rfl 47 rfl ?_; intro m3 w3 hm3 hM3 hgr3)
    | ((with_reducible show wpList _ _ _ (Oper.mk _ (Op.build 49 _) _ _ _ _ :: _) _ _); refine wpList_val rfl (exec_of_build 49 _ rfl (by simp [Act.eval, Act.put]) (run49 m1 m2 m3 _)) ?_)
    | ((with_reducible show wpList _ _ _ (Oper.mk _ (Op.box 49 _) _ _ _ _ :: _) _ _); refine wpList_boxB rfl 49 _ rfl _ [.map (some m1), .map (some m2), .map (some m3)] rfl rfl ?_; intro p w4 hp hB4 hgr4))
  have n12 : m1 ≠ m2 := by have := hM1.lt; omega
  have n13 : m1 ≠ m3 := by have := (hM1.grown hgr2 (by simp)).lt; omega
  have hM1' : MapB w4 m1 KU [] := ((hM1.grown hgr2 (by simp)).grown hgr3 (by simp)).grown hgr4 (by simp)
  have hM2' : MapB w4 m2 KU [] := (hM2.grown hgr3 (by simp)).grown hgr4 (by simp)
  have hM3' : MapB w4 m3 KU [] := hM3.grown hgr4 (by simp)
  have hb2 : Below w.heap.size w w2 := (grownBelow hgr1).trans ((grownBelow hgr2).mono hgr1.size)
  have hb3 : Below w.heap.size w w3 := hb2.trans ((grownBelow hgr3).mono hb2.size)
  have hb4 : Below w.heap.size w w4 := hb3.trans ((grownBelow hgr4).mono hb3.size)
  clear hM1 hM2 hM3 hgr1 hgr2 hgr3 hgr4 hb2 hb3 hm2 hm3
  go_loopw [13] (fun i wr => ∃ (k : Nat) (kv : List (Int × Value)), k ≤ zs.length ∧ i = .int .i64 k ∧ MapB wr m1 KU kv ∧ kv.map (fun q : Int × Value => q.1) = keysOf (zs.take k) ∧ (∀ q ∈ kv, ∃ g, q.2 = .map (some g) ∧ g ≠ m1 ∧ MapB wr g KU []) ∧
      Blk wr p [.map (some m1), .map (some m2), .map (some m3)] 49 ∧ MapB wr m2 KU [] ∧ MapB wr m3 KU [] ∧ Below w.heap.size w wr)
    (fun i _ => zs.length - (intOf i).toNat)
  case atStart => exact ⟨0, [], Nat.zero_le _, rfl, hM1', by simp [keysOf], by simp, hB4, hM2', hM3', hb4⟩
  case round =>
    obtain ⟨k, kv, hk, rfl, hMr, hkv, hval, hBr, hM2r, hM3r, hbr⟩ := hrel
    clear hM1' hM2' hM3' hB4 hb4
    by_cases hlt : k < zs.length
    · obtain ⟨x, hx⟩ : ∃ x, zs[k]? = some x := ⟨_, List.getElem?_eq_getElem hlt⟩
      obtain ⟨g, rfl, hc⟩ := HR.out.at hx
      have hcr : wr.cell? ⟨g, k, none⟩ = some (.int .u64 x) := (hbr.cell (World.block_lt_of_cell? w _ hc)).trans hc
      have hcp : wr.cell? ⟨p, 0, none⟩ = some (.map (some m1)) := by rw [hBr.cell]; rfl
      have HX : Hid (zs[k]? = some x) := hx
      have HKV : Hid (kv.map (fun q : Int × Value => q.1) = keysOf (zs.take k)) := hkv
      have HV : Hid (∀ q ∈ kv, ∃ g, q.2 = .map (some g) ∧ g ≠ m1 ∧ MapB wr g KU []) := hval
      clear hx hc hkv hval
      go_wp2_with (first
        | ((with_reducible show wpList _ _ _ (Oper.mk _ (Op.makeMap 47 _) _ _ _ _ :: _) _ _); refine wpList_makeMapB KU rfl 47 rfl ?_; intro mg w5 hmg hMg hgr5; have hM5 := hMr.grown hgr5 (by simp))
        | ((with_reducible show wpList _ _ _ (Oper.mk _ (Op.mapUpdate 45 _ _ _) _ _ _ _ :: _) _ _); refine wpList_updateB rfl 45 _ _ _ rfl 39 47 Trym.underlying45 keys39 m1 rfl _ hM5 x rfl (.map (some mg)) rfl ?_; intro w6 hM6 hgr6))
      have nmg : mg ≠ m1 := by have := hMr.lt; omega
      have hb6 : Below w.heap.size w w6 := (hbr.trans ((grownBelow hgr5).mono hbr.size)).grown hgr6 (Nat.le_trans hbr.size hgr5.size) (fun q hq => by cases hq; exact hm1)
      have keep : ∀ {g' kv'}, g' ≠ m1 → MapB wr g' KU kv' → MapB w6 g' KU kv' := fun hne h => (h.grown hgr5 (by simp)).grown hgr6 (by simpa using hne)
      have hB6 : Blk w6 p [.map (some m1), .map (some m2), .map (some m3)] 49 := (hBr.kept hgr5).grown hgr6 (by simpa using blk_ne_map hBr hMr)
      have hkv6 := put_keys (x := x) (v := .map (some mg)) HKV.out
      rw [← take_snoc zs k x HX.out] at hkv6
      go_roundw
      case rel =>
        refine ⟨k + 1, _, by omega, by go_num, hM6, hkv6, ?_, hB6, keep (fun e => n12 e.symm) hM2r, keep (fun e => n13 e.symm) hM3r, hb6⟩
        intro q hq
        rcases put_mem hq with rfl | hq
        · exact ⟨mg, rfl, nmg, hMg.grown hgr6 (by simpa using nmg)⟩
        · obtain ⟨g', e, hne, hg'⟩ := HV.out q hq
          exact ⟨g', e, hne, keep hne hg'⟩
      case measure => simp [intOf]; omega
    · go_wp2
      go_ret
      obtain rfl : k = zs.length := by omega
      rw [List.take_length] at hkv
      exact ⟨p, rfl, ⟨m1, m2, m3, kv, hBr, hMr, hM2r, hM3r, hkv, fun q hq => by obtain ⟨g, e, _, hg⟩ := hval q hq; exact ⟨g, e, hg⟩⟩, hbr⟩
end Go.Proofs.Qxb6600849aMods.Fl
