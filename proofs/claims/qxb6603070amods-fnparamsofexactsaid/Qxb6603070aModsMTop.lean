import Derived.Test.Qxb6603070aModsMTopP
namespace Go.Proofs.Qxb6603070aMods.M
open Go.RowKit Go.Proofs.Qxb6603070aMods.L

/-- ZZParamsOf. -/
theorem zzParamsOf_any (a : Option Addr) (L : List P2) (w : World) (hl : L.length ≤ 65536) (hP : Prs 49 w a L) :
    Calls Trym.prog 28 #[.slice a L.length L.length] w fun e w' => ∃ v, e = .returned v ∧ Params w.heap.size w' v (withP L) ∧ Below w.heap.size w w' := by
  have HP : Hid (Prs 49 w a L) := hP
  clear hP
  go_enter Trym.func28, Trym.ntmps28
  go_wp2_with fail
  refine (paramsOf_any a L w hl HP.out).mono ?_
  rintro e w1 ⟨v, rfl, hPar, hb⟩
  go_wp2
  go_ret
  exact ⟨v, rfl, hPar, hb⟩
theorem elem32 : Trym.prog.underlying 32 = some (.slice (Trym.prog.elem 32)) := by kernel_rfl
theorem elem32_43 : Trym.prog.elem 32 = 43 := by kernel_rfl
theorem exec_sliceB {o : Oper} {a : Act} {w : World} (x l h : Operand) (ho : o.op = .slice 32 x (some l) (some h) none) (g n : Nat) (hx : a.eval x = .slice (some ⟨g, 0, none⟩) n n) (i j : Nat) (hl : a.eval l = .int .i64 i) (hh : a.eval h = .int .i64 j) (hij : i ≤ j) (hjn : j ≤ n) (hin : i < n) :
    (execOp a.eval o).run Trym.prog w = .ok (.value (.slice (some ⟨g, i * 2, none⟩) (j - i) (n - i))) w := by
  have h1 := run_slice_lh (P := Trym.prog) w 32 (some ⟨g, 0, none⟩) n n elem32 .i64 .i64 (i : Int) (j : Int) (by omega) (by omega) (by omega)
  obtain ⟨i0, hi, hi2⟩ := Option.map_eq_some_iff.1 Trym.size43
  have h2 : ((sizeOf (Trym.prog.elem 32)).run Trym.prog w) = .ok 2 w := by simp [elem32_43, sizeOf, typeInfo, hi, hi2]
  rw [h2] at h1
  have hne : ¬ n = i := by omega
  simp only [Result.andThen_ok, sliced, Int.toNat_natCast, hne, if_false, Option.map_some, Addr.add_lit, Nat.zero_add] at h1
  have h3 := run_sliceAt_slice (P := Trym.prog) w 32 (.slice (some ⟨g, 0, none⟩) n n) (some (.int .i64 i)) (some (.int .i64 j)) none elem32
  simp only [execOp, ho]
  simp [hx, hl, hh, h1, h3]
end Go.Proofs.Qxb6603070aMods.M
