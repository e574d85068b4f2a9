import Derived.WalkKit
import Derived.ProofKit
import Derived.Below
namespace Go.Proofs.Qxb6600849aMods.Plain
open Go.RowKit

/-- What a copying loop has made after k rounds: the first k values, then noughts. -/
def partC (z : Value) (xs : List Value) (len k : Nat) : List Value := xs.take k ++ List.replicate (len - k) z

theorem partC_length (z : Value) (xs : List Value) (len k : Nat) (hk : k ≤ len) (hx : len ≤ xs.length) : (partC z xs len k).length = len := by
  simp [partC]; omega

theorem partC_zero (z : Value) (xs : List Value) (len : Nat) (hz : z.cells = #[z]) : (madeCells z.cells len).toList = partC z xs len 0 := by
  rw [hz]
  simp only [partC, madeCells, List.take_zero, List.nil_append, Nat.sub_zero]
  apply List.ext_getElem
  · simp
  · intro i h1 h2
    simp [Nat.mod_one]

theorem partC_step (z : Value) (xs : List Value) (len k : Nat) (hk : k < len) (hx : len ≤ xs.length) (x : Value) (h : xs[k]? = some x) : (partC z xs len k).set k x = partC z xs len (k + 1) := by
  have hkl : k < xs.length := by omega
  have e : len - k = (len - (k + 1)) + 1 := by omega
  have ex : xs[k] = x := by rw [List.getElem?_eq_getElem hkl] at h; exact Option.some.inj h
  unfold partC
  rw [e, List.replicate_succ, List.set_append]
  rw [if_neg (by simp; omega)]
  have e2 : k - (xs.take k).length = 0 := by simp; omega
  rw [e2, List.set_cons_zero, List.take_succ_eq_append_getElem hkl, ex]
  simp

theorem partC_all (z : Value) (xs : List Value) (len : Nat) : partC z xs len len = xs.take len := by simp [partC]

/-- The cells of a block that has just been laid. -/
theorem new_cells (w : World) (cs : Array Value) (t : TypeId) : ∀ j u, cs.toList[j]? = some u → (w.alloc (.cells cs t)).cell? ((⟨w.heap.size, 0, none⟩ : Addr).add j) = some u := by
  intro j u hj
  rw [Addr.add_lit, cell_of_row _ _ _ cs t (0, 0) (heap_alloc_new w _)]
  simpa using hj

/-- 'append' onto a slice of the call's own, as one step of a region that draws its order. -/
theorem step_append_own {P : Program} {ops : Array Oper} {o : Oper} {a : Act} {w : World} {K : Act → World → Prop} {Q : Exit → Act → World → Prop} {E : Prop}
    (hg : o.guard = none) (s x : Operand) (t : TypeId) (hop : o.op = Op.call { callee := Callee.builtin Builtin.append, args := #[s, x], argTypes := #[t, t] })
    (base : Nat) (e : TypeId) (i : TypeInfo) (z : Value) (size bytes : Nat) (h1 : P.underlying t = some (.slice e)) (h2 : P.info? e = some i) (h3 : i.zero = some z) (h4 : i.size = size) (h5 : i.bytes = bytes) (h6 : z.cells.size = size) (h7 : 0 < size)
    (v : Value) (n : Nat) (xs : List Value) (hs : a.eval s = v) (hown : w.ownsRow base e size v n xs)
    (ad : Addr) (m c : Nat) (news : List Value) (hx : a.eval x = .slice (some ad) m c) (hn : news.length = m * size) (hc : ∀ j u, news[j]? = some u → w.cell? (ad.add j) = some u) (h1c : ∀ u ∈ news, u.oneCell' = true)
    (b1 : n + m ≤ maxLen) (b2 : (n + m) * bytes ≤ 140737488355328) (hbase : base ≤ w.heap.size)
    (hK : ∀ v' w', w'.ownsRow base e size v' (n + m) (xs ++ news) → w.grownBy w' v.ownBlock → K (a.put o.dst v') w') :
    if Region.wanted o (yielded ops a.tmps) = true then Oper.wp P o a w K Q else E := by
  have hw : Region.wanted o (yielded ops a.tmps) = true := by simp [Region.wanted, hg]
  rw [if_pos hw]
  exact wp_append_own w s x t hop base e i z size bytes h1 h2 h3 h4 h5 h6 h7 v n xs hs hown ad m c news hx hn hc h1c b1 b2 hbase (fun v' w' r1 r2 _ => hK v' w' r1 r2)
end Go.Proofs.Qxb6600849aMods.Plain
