import Derived.Test.Qxb6000998aModsEBuild
namespace Go.Proofs.Qxb6000998aMods.E
open Go.RowKit Go.Proofs.Qxb6000998aMods.L

/-- The rows of entries of the call's own. -/
def Results (w : World) (v : Value) (R : List (List (Int × Int))) : Prop :=
  ∃ (g : Nat) (vs : List Value), v = .slice (some ⟨g, 0, none⟩) R.length R.length ∧ Blk w g vs 48 ∧ vs.length = R.length ∧ ∀ (i : Nat) u L, vs[i]? = some u → R[i]? = some L → ERow w u L

theorem build_empty (a : Option Addr) (w : World) : Calls Trym.prog 20 #[.slice a 0 0] w fun e w' => ∃ v, e = .returned v ∧ Results w' v [] ∧ Below w.heap.size w w' := by
  go_enter Trym.func20, Trym.ntmps20
  go_wp2_with (first | (at_make; refine wpList_makeB rfl _ _ 50 rfl 48 (.slice none 0 0) [.slice none 0 0] rfl 1 24 rfl Trym.underlying50 Trym.info48 _ _ _ _ 0 rfl rfl rfl rfl (by omega) (by unfold maxLen; omega) ?_) | fail)
  intro g w1 hg hblk hgrow
  have hb1 := grownBelow hgrow
  go_wp2
  refine wp_loop_rounds 1 ?_
  rw [rounds_succ]
  go_wp2
  go_ret
  exact ⟨_, rfl, ⟨g, [], rfl, by simpa using hblk, rfl, fun i u zs h => by simp at h⟩, hb1⟩

/-- The order in which the statement's operations are walked. -/
def ord : List (Nat × Bool) := [(0, false), (1, false), (2, false), (3, false), (4, false), (5, false), (6, false), (7, false), (8, false), (10, false), (11, false), (12, false), (13, false), (14, false), (15, false), (16, false), (17, false), (18, false), (19, false), (20, false), (21, false), (22, false), (23, false), (24, false), (9, true), (25, false), (26, false), (27, true)]

theorem exec_of_conv {P : Program} {o : Oper} {a : Act} {w : World} {v u : Value} (s d : TypeId) (x : Operand) (ho : o.op = .convert s d x) (hx : a.eval x = v) (h : (convert s d v).run P w = .ok u w) : (execOp a.eval o).run P w = .ok (.value u) w := by
  simp [execOp, ho, hx, h]
theorem exec_of_bin {P : Program} {o : Oper} {a : Act} {w : World} {k k' : IntKind} {m n : Int} {u : Value} (op : BinOp) (t t' : TypeId) (x y : Operand) (ho : o.op = .binOp op t x y t') (hx : a.eval x = .int k m) (hy : a.eval y = .int k' n) (hop : (match op with | .eql | .neq => false | _ => true) = true)
    (h : (binOp op t (.int k m) (.int k' n)).run P w = .ok u w) : (execOp a.eval o).run P w = .ok (.value u) w := by
  have hg : (eqGuard op t x y (.int k m) (.int k' n)).run P w = .ok () w := by
    unfold eqGuard
    cases op <;> simp_all
  simp [execOp, ho, hx, hy, h, hg]

theorem exec_of_build {P : Program} {o : Oper} {a : Act} {w : World} {u : Value} (t : TypeId) (ps : Array (Nat × Operand)) (ho : o.op = .build t ps) {parts : Array (Nat × Value)} (hps : (ps.map fun (x : Nat × Operand) => (x.1, a.eval x.2)) = parts) (h : (Instr.build t parts).run P w = .ok u w) : (execOp a.eval o).run P w = .ok (.value u) w := by
  rw [← hps] at h
  simp only [execOp, ho]
  simp [h]

set_option maxHeartbeats 4000000 in
theorem build_any (g : Nat) (O : List (List Int)) (vs : List Value) (w : World) (hO : O.length ≤ 65537) (hr : ∀ row ∈ O, row.length ≤ 65536) (hb : ∀ row ∈ O, ∀ o ∈ row, 0 ≤ o ∧ o ≤ 65535)
    (hB : Blk w g vs 53) (hl : vs.length = O.length) (hrow : ∀ (i : Nat) u zs, vs[i]? = some u → O[i]? = some zs → Row w u zs) :
    Calls Trym.prog 20 #[.slice (some ⟨g, 0, none⟩) O.length O.length] w fun e w' => ∃ v, e = .returned v ∧ Results w' v (resE O) ∧ Below w.heap.size w w' := by
  go_enter Trym.func20, Trym.ntmps20
  go_wp2_with (first | (at_make; refine wpList_makeB rfl _ _ 50 rfl 48 (.slice none 0 0) [.slice none 0 0] rfl 1 24 rfl Trym.underlying50 Trym.info48 _ _ _ _ O.length rfl rfl rfl rfl (by omega) (by unfold maxLen; omega) ?_; intro gR w1 hgR hBR hgr1) | fail)
  replace hBR : Blk w1 gR (List.replicate O.length (Value.slice none 0 0)) 48 := by first | exact hBR | simpa [flat_one_cells] using hBR
  have hb1 := grownBelow hgr1
  go_loopw [4] (fun i wr => ∃ (k : Nat) (us : List Value), k ≤ O.length ∧ i = .int .i64 k ∧ us.length = k ∧ Blk wr gR (us ++ List.replicate (O.length - k) (Value.slice none 0 0)) 48 ∧ (∀ (i : Nat) u, us[i]? = some u → ∀ zs, O[i]? = some zs → ERow wr u (rowE i zs)) ∧ Below w.heap.size w wr)
    (fun i _ => O.length - (intOf i).toNat)
  case atStart => exact ⟨0, [], Nat.zero_le _, rfl, rfl, by simpa using hBR, fun i u h => by simp at h, hb1⟩
  case round =>
    obtain ⟨wo, rfl⟩ : ∃ wo : World, wo = wr := ⟨_, rfl⟩
    obtain ⟨k, us, hk, rfl, hul, hown, hrows, hbel⟩ := hrel
    clear hBR hgr1 hb1
    by_cases hlt : k < O.length
    · obtain ⟨zs, hz⟩ : ∃ zs, O[k]? = some zs := ⟨_, List.getElem?_eq_getElem hlt⟩
      obtain ⟨u, hu⟩ : ∃ u, vs[k]? = some u := ⟨_, List.getElem?_eq_getElem (by omega)⟩
      have hzl : zs.length ≤ 65536 := hr zs (List.mem_of_getElem? hz)
      have hzb := hb zs (List.mem_of_getElem? hz)
      have hru := hrow k u zs hu hz
      have hcu : w.cell? ⟨g, k, none⟩ = some u := by rw [hB.cell]; exact hu
      have hgw : g < w.heap.size := hB.lt
      obtain ⟨ua, hua⟩ := hru.shape
      rw [hua] at hcu hru
      have HZ : Hid (O[k]? = some zs) := hz
      have HU : Hid (vs[k]? = some u) := hu
      have HUA : Hid (u = .slice ua zs.length zs.length) := hua
      clear hz hu hua hl
      have hco : wo.cell? ⟨g, k, none⟩ = some (.slice ua zs.length zs.length) := (hbel.cell (by exact hgw)).trans hcu
      go_wp2_with (first | (at_make; refine wpList_makeB rfl _ _ 48 rfl 58 (.agg z58.toArray) z58 rfl 228 272 z58_length Trym.underlying48 Trym.info58 _ _ _ _ zs.length rfl rfl rfl rfl (by omega) (by unfold maxLen; omega) ?_; intro gr w2 hgr hBr hgr2) | fail)
      have eh := half_zero (rowE k zs)
      rw [rowE_length] at eh
      rw [← eh] at hBr
      clear eh
      have hbel2 : Below w.heap.size w w2 := hbel.trans ((grownBelow hgr2).mono hbel.size)
      have hown2 := hown.kept hgr2
      have hbo2 := grownBelow hgr2
      go_loopw [6] (fun j wq => ∃ j' : Nat, j' ≤ zs.length ∧ j = .int .i64 j' ∧ Blk wq gr (half (rowE k zs) j') 58 ∧ Below wo.heap.size wo wq)
        (fun j _ => zs.length - (intOf j).toNat)
      case atStart => exact ⟨0, Nat.zero_le _, rfl, hBr, hbo2⟩
      case round =>
        obtain ⟨j, hj, rfl, hBq, hbq⟩ := hrel
        clear hBr hgr2 hbel2 hown2 hbo2
        have hbwq : Below w.heap.size w wr := hbel.trans (hbq.mono hbel.size)
        have hcq : wr.cell? ⟨g, k, none⟩ = some (.slice ua zs.length zs.length) := (hbwq.cell (by exact hgw)).trans hcu
        by_cases hjl : j < zs.length
        · rcases hru with ⟨_, hnil⟩ | ⟨b, hub, hBb⟩
          · subst hnil; simp at hjl
          · simp only [Value.slice.injEq, and_true] at hub
            subst hub
            obtain ⟨o, ho⟩ : ∃ o, zs[j]? = some o := ⟨_, List.getElem?_eq_getElem hjl⟩
            have hob := hzb o (List.mem_of_getElem? ho)
            have hbw : b < w.heap.size := hBb.lt
            have HO : Hid (zs[j]? = some o) := ho
            clear ho
            go_wp2
            refine wp_region_walk (fun w' => Below w.heap.size w w') ord (by kernel_rfl) (by kernel_rfl) (by kernel_rfl) rfl (by kernel_rfl) (fun _ _ d _ _ h => by cases d <;> exact h) hbwq.drew ?_
            simp only [picked, ord, List.map_cons, List.map_nil, List.getD_cons_succ, List.getD_cons_zero]
            have iO : ∀ {o : Oper} {a : Act} {w' : World} (x ix : Operand), o.op = .indexAddr 45 x ix → a.eval x = .slice (some ⟨g, 0, none⟩) O.length O.length → a.eval ix = .int .i64 (k : Int) → (execOp a.eval o).run Trym.prog w' = .ok (.value (.pointer (some ⟨g, k, none⟩))) w' := by
              intro o a w' x ix h1 h2 h3
              have := exec_indexB (P := Trym.prog) (w := w') 45 53 x ix h1 g 0 _ _ h2 .i64 k h3 hlt Trym.underlying45 1 Trym.size53
              simpa using this
            have iZ : ∀ {o : Oper} {a : Act} {w' : World} (x ix : Operand), o.op = .indexAddr 53 x ix → a.eval x = .slice (some ⟨b, 0, none⟩) zs.length zs.length → a.eval ix = .int .i64 (j : Int) → (execOp a.eval o).run Trym.prog w' = .ok (.value (.pointer (some ⟨b, j, none⟩))) w' := by
              intro o a w' x ix h1 h2 h3
              have := exec_indexB (P := Trym.prog) (w := w') 53 54 x ix h1 b 0 _ _ h2 .i64 j h3 hjl Trym.underlying53 1 Trym.size54
              simpa using this
            have lO : ∀ {o : Oper} {a : Act} {w' : World} (x : Operand), Below w.heap.size w w' → o.op = .load 53 x → a.eval x = .pointer (some ⟨g, k, none⟩) → (execOp a.eval o).run Trym.prog w' = .ok (.value (.slice (some ⟨b, 0, none⟩) zs.length zs.length)) w' := by
              intro o a w' x hw' h1 h2
              exact exec_load1B 53 x h1 g k h2 vs 53 (hB.all hw') _ Trym.underlying53 rfl _ (by rw [HU.out, HUA.out])
            have lZ : ∀ {o' : Oper} {a : Act} {w' : World} (x : Operand), Below w.heap.size w w' → o'.op = .load 54 x → a.eval x = .pointer (some ⟨b, j, none⟩) → (execOp a.eval o').run Trym.prog w' = .ok (.value (.int .u16 o)) w' := by
              intro o' a w' x hw' h1 h2
              exact exec_load1B 54 x h1 b j h2 _ 54 (hBb.all hw') _ Trym.underlying54 rfl (.int .u16 o) (by rw [List.getElem?_map, HO.out]; rfl)
            refine held_move _ _ rfl rfl rfl ?_
            go_frame
            refine held_move _ _ rfl rfl rfl ?_
            go_frame
            refine held_move _ _ rfl rfl rfl ?_
            go_frame
            refine held_move _ _ rfl rfl rfl ?_
            go_frame
            refine held_take (.pointer (some ⟨g, k, none⟩)) rfl (fun w' hw' => iO _ _ rfl rfl rfl) ?_
            go_frame
            refine held_take (.slice (some ⟨b, 0, none⟩) zs.length zs.length) rfl (fun w' hw' => lO _ hw' rfl rfl) ?_
            go_frame
            refine held_move _ _ rfl rfl rfl ?_
            go_frame
            refine held_take (.pointer (some ⟨b, j, none⟩)) rfl (fun w' hw' => iZ _ _ rfl rfl rfl) ?_
            go_frame
            refine held_take (.int .u16 o) rfl (fun w' hw' => lZ _ hw' rfl rfl) ?_
            go_frame
            refine held_move _ _ rfl rfl rfl ?_
            go_frame
            refine held_take (.int .u64 (k : Int)) rfl (fun w' hw' => exec_of_conv _ _ _ rfl rfl (run_conv_up k (by omega) w')) ?_
            go_frame
            refine held_take (.int .u64 ((k : Int) * 4294967296)) rfl (fun w' hw' => exec_of_bin _ _ _ _ _ rfl rfl rfl rfl (run_shl k (by omega) w')) ?_
            go_frame
            refine held_move _ _ rfl rfl rfl ?_
            go_frame
            refine held_take (.int .u64 (j : Int)) rfl (fun w' hw' => exec_of_conv _ _ _ rfl rfl (run_conv_up j (by omega) w')) ?_
            go_frame
            refine held_take (.int .u64 (tag k j)) rfl (fun w' hw' => exec_of_bin _ _ _ _ _ rfl rfl rfl rfl (run_or k j (by omega) (by omega) w')) ?_
            go_frame
            refine held_move _ _ rfl rfl rfl ?_
            go_frame
            refine held_move _ _ rfl rfl rfl ?_
            go_frame
            refine held_take (.pointer (some ⟨g, k, none⟩)) rfl (fun w' hw' => iO _ _ rfl rfl rfl) ?_
            go_frame
            refine held_take (.slice (some ⟨b, 0, none⟩) zs.length zs.length) rfl (fun w' hw' => lO _ hw' rfl rfl) ?_
            go_frame
            refine held_move _ _ rfl rfl rfl ?_
            go_frame
            refine held_take (.pointer (some ⟨b, j, none⟩)) rfl (fun w' hw' => iZ _ _ rfl rfl rfl) ?_
            go_frame
            refine held_take (.int .u16 o) rfl (fun w' hw' => lZ _ hw' rfl rfl) ?_
            go_frame
            refine held_take (.int .u64 o) rfl (fun w' hw' => exec_of_conv _ _ _ rfl rfl (run_conv16 o hob.1 hob.2 w')) ?_
            go_frame
            refine held_take (.agg (blk2 (tag k j) o).toArray) rfl (fun w' hw' => exec_of_build 37 _ rfl (by simp [Act.eval]) (run_blk (tag k j) o w')) ?_
            go_frame
            refine held_call 21 #[.int .u16 o] rfl (by simp [go_sem]) ?_
            refine (ownerKey_any o hob.1 hob.2 wr.drew).mono ?_
            rintro e w3 ⟨rfl, hb3⟩
            refine ⟨_, rfl, hbwq.drew.trans (hb3.mono hbwq.drew.size), ?_⟩
            go_frame
            refine held_take (.agg (ent (tag k j, o)).toArray) rfl (fun w' hw' => exec_of_build 58 _ rfl (by simp [Act.eval]) (run_ent (tag k j) o w')) ?_
            go_frame
            refine held_take (.pointer (some ⟨gr, 0 + j * 228, none⟩)) rfl (fun w' hw' => exec_indexB 48 58 _ _ rfl gr 0 _ _ rfl .i64 j rfl hjl Trym.underlying48 228 Trym.size58) ?_
            go_frame
            have hBq3 : Blk w3 gr (half (rowE k zs) j) 58 := Blk.all (w := wr.drew) hBq hb3
            have hel : (rowE k zs)[j]? = some (tag k j, o) := by rw [rowE_get, HO.out]; rfl
            have hhl := half_length (rowE k zs) j (by rw [rowE_length]; omega)
            rw [rowE_length] at hhl
            refine held_run rfl (wp_storeB 58 _ _ rfl gr (0 + j * 228) rfl (ent (tag k j, o)) rfl _ 58 hBq3 (by rw [ent_length]; exact Trym.size58) (by rw [ent_length, hhl]; omega) (ent_ones _) ?_)
            intro w4 hBq4 hg4
            rw [Nat.zero_add, half_put _ j _ hel] at hBq4
            have hgr0 : wo.heap.size ≤ gr := hgr
            have hb4 : Below wo.heap.size wo w4 := ((hbq.drew).trans (hb3.mono hbq.drew.size)).grown hg4 (Nat.le_trans hbq.size hb3.size) (fun q hq => by cases hq; exact hgr0)
            refine ⟨hbel.trans (hb4.mono hbel.size), ?_⟩
            show Exit.inBlock 3 _ Exit.normal _ _
            go_frame
            clear iO iZ lO lZ hBq3 hg4 hb3
            go_wp2
            go_roundw
            case rel => exact ⟨j + 1, by omega, by go_num, hBq4, hb4⟩
            case measure => simp [intOf]; omega
        · obtain rfl : j = zs.length := by omega
          have eh := half_all (rowE k zs)
          rw [rowE_length] at eh
          rw [eh] at hBq
          clear eh
          have hownq := hown.all hbq
          go_wp2_with (first
            | ((with_reducible show wpList _ _ _ (Oper.mk _ (Op.store 48 _ _) _ _ _ _ :: _) _ _); refine wpList_store1B rfl 48 _ _ rfl gR k rfl (.slice (some ⟨gr, 0, none⟩) zs.length zs.length) rfl rfl rfl _ 48 hownq Trym.size48 (by simp; omega) ?_; intro w5 hown5 hg5)
            | fail)
          rw [set_mid us O.length k _ _ hul hlt] at hown5
          have hno := not_other hownq (by decide : (48 : TypeId) ≠ 58)
          have hb5 : Below w.heap.size w w5 := hbwq.grown hg5 hbwq.size (fun q hq => by cases hq; exact hgR)
          have hrows5 : ∀ (i : Nat) x, (us ++ [Value.slice (some ⟨gr, 0, none⟩) zs.length zs.length])[i]? = some x → ∀ zs, O[i]? = some zs → ERow w5 x (rowE i zs) := by
            refine snoc_get hul (R := fun i x => ∀ zs, O[i]? = some zs → ERow w5 x (rowE i zs)) ?_ ?_
            · intro i x hx zs' hzs'
              exact ((hrows i x hx zs' hzs').all hbq).grown hg5 hno
            · intro zs' hzs'
              rw [HZ.out] at hzs'
              cases hzs'
              have hE : ERow wr (.slice (some ⟨gr, 0, none⟩) zs.length zs.length) (rowE k zs) := ⟨gr, by rw [rowE_length], hBq⟩
              exact hE.grown hg5 hno
          go_roundw
          case rel => exact ⟨k + 1, us ++ [.slice (some ⟨gr, 0, none⟩) zs.length zs.length], by omega, by go_num, by simp [hul], hown5, hrows5, hb5⟩
          case measure => simp [intOf]; omega
    · go_wp2
      go_ret
      obtain rfl : k = O.length := by omega
      rw [Nat.sub_self, List.replicate_zero, List.append_nil] at hown
      refine ⟨_, rfl, ⟨gR, us, by rw [resE_length]; rfl, hown, by rw [resE_length]; exact hul, ?_⟩, hbel⟩
      intro i u L h1 h2
      rw [resE_get] at h2
      cases hz : O[i]? with
      | none => simp [hz] at h2
      | some zs => simp [hz] at h2; subst h2; exact hrows i u h1 zs hz

/-- buildResults. -/
theorem build_in {w : World} {v : Value} {O : List (List Int)} (h : Owners w v O) (hO : O.length ≤ 65537) (hr : ∀ row ∈ O, row.length ≤ 65536) (hb : ∀ row ∈ O, ∀ o ∈ row, 0 ≤ o ∧ o ≤ 65535) :
    Calls Trym.prog 20 #[v] w fun e w' => ∃ v, e = .returned v ∧ Results w' v (resE O) ∧ Below w.heap.size w w' := by
  rcases h with ⟨rfl, rfl⟩ | ⟨g, vs, rfl, hB, hl, hrow⟩
  · exact build_empty none w
  · exact build_any g O vs w hO hr hb hB hl hrow
end Go.Proofs.Qxb6000998aMods.E
