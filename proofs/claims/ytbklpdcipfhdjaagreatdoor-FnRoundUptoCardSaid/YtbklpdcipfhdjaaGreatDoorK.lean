/- Walks of ishex and unhex. -/
import Derived.Test.YtbklpdcipfhdjaaGreatDoorA
namespace Go.Proofs.YtbklpdcipfhdjaaGreatDoor.K
open Go.RowKit Go.Proofs.YtbklpdcipfhdjaaGreatDoor.A

set_option maxHeartbeats 1000000 in
theorem ishex_any (n v : Nat) (hn : n < 16) (hv : v = if n < 10 then 48 + n else 55 + n) (w : World) :
    Calls Tryz.prog 84 #[.int .u8 v] w fun r w' => r = .returned (.bool true) ∧ w = w' := by
  by_cases h : n < 10
  · rw [if_pos h] at hv
    subst hv
    go_enter Tryz.func84, Tryz.ntmps84
    go_wp2
    go_ret
    exact ⟨rfl, rfl⟩
  · rw [if_neg h] at hv
    subst hv
    go_enter Tryz.func84, Tryz.ntmps84
    go_wp2
    go_ret
    exact ⟨rfl, rfl⟩

set_option maxHeartbeats 1000000 in
theorem unhex_any (n v : Nat) (hn : n < 16) (hv : v = if n < 10 then 48 + n else 55 + n) (w : World) :
    Calls Tryz.prog 85 #[.int .u8 v] w fun r w' => r = .returned (.int .u8 n) ∧ w = w' := by
  by_cases h : n < 10
  · rw [if_pos h] at hv
    subst hv
    go_enter Tryz.func85, Tryz.ntmps85
    go_wp2
    go_ret
    exact ⟨by go_num, rfl⟩
  · rw [if_neg h] at hv
    subst hv
    go_enter Tryz.func85, Tryz.ntmps85
    go_wp2
    go_ret
    exact ⟨by go_num, rfl⟩

end Go.Proofs.YtbklpdcipfhdjaaGreatDoor.K
