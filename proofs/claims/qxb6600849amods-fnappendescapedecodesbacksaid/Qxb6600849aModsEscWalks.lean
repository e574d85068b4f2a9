import Derived.Test.Qxb6600849aModsRows
import Derived.WalkKit
import Derived.ProofKit
import Derived.OpenShut
import Derived.ShutString
import Derived.ChangeOld
import Derived.Below
import Derived.WalkSpells
import Derived.WalkLawsBesides
namespace Go.Proofs.Qxb6600849aMods.Esc
open Go.RowKit

/-- The value of one hexadecimal digit, as zzHexVal says it. -/
def hv (h : Int) : Int := if 48 ≤ h ∧ h ≤ 57 then h - 48 else if 97 ≤ h ∧ h ≤ 102 then h - 97 + 10 else if 65 ≤ h ∧ h ≤ 70 then h - 65 + 10 else -1

theorem ret_int {k : IntKind} {a b : Int} (h : a = b) : Ending.returned (.int k a) = .returned (.int k b) := by rw [h]

set_option maxHeartbeats 400000 in
theorem hexval_any (h : Int) (w : World) (h0 : 0 ≤ h) (h1 : h ≤ 255) :
    Calls Trym.prog 19 #[.int .u8 h] w fun e w' => e = .returned (.int .i64 (hv h)) ∧ w' = w := by
  by_cases a : 48 ≤ h ∧ h ≤ 57
  · obtain ⟨a1, a2⟩ := a
    go_enter Trym.func19, Trym.ntmps19
    go_wp2
    go_ret
    exact ⟨ret_int (by simp [hv, a1, a2]), rfl⟩
  by_cases b : 97 ≤ h ∧ h ≤ 102
  · obtain ⟨a1, a2⟩ := b
    go_enter Trym.func19, Trym.ntmps19
    go_wp2
    go_ret
    exact ⟨ret_int (by unfold hv; rw [if_neg (by omega), if_pos ⟨a1, a2⟩]), rfl⟩
  by_cases d : 65 ≤ h ∧ h ≤ 70
  · obtain ⟨a1, a2⟩ := d
    go_enter Trym.func19, Trym.ntmps19
    go_wp2
    go_ret
    exact ⟨ret_int (by unfold hv; rw [if_neg (by omega), if_neg (by omega), if_pos ⟨a1, a2⟩]), rfl⟩
  · have e : hv h = -1 := by unfold hv; rw [if_neg a, if_neg b, if_neg d]
    rw [e]
    go_enter Trym.func19, Trym.ntmps19
    go_wp2
    all_goals first | (exfalso; omega) | (go_ret; exact ⟨rfl, rfl⟩)

theorem bytes_small (a : Option Addr) (len cap : Nat) (c : Int) (w : World) (h : len ≤ 1048576) :
    Calls Trym.prog 7 #[.slice a len cap, .int .u8 c] w fun e w' => e = .returned (.bool true) ∧ w' = w := by
  go_enter Trym.func7, Trym.ntmps7
  go_wp2
  go_ret
  exact ⟨rfl, rfl⟩

theorem bytes_big (a : Option Addr) (len cap : Nat) (c : Int) (w : World) (h : 1048576 < len) :
    Calls Trym.prog 7 #[.slice a len cap, .int .u8 c] w fun e w' => e = .returned (.bool false) ∧ w' = w := by
  go_enter Trym.func7, Trym.ntmps7
  go_wp2
  go_ret
  exact ⟨rfl, rfl⟩
end Go.Proofs.Qxb6600849aMods.Esc
