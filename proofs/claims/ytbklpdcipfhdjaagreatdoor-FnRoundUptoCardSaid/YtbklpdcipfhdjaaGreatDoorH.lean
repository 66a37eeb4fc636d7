/- Walks over Written: zzFits1. -/
import Derived.Test.YtbklpdcipfhdjaaGreatDoorG
namespace Go.Proofs.YtbklpdcipfhdjaaGreatDoor.H
open Go.RowKit Go.Proofs.YtbklpdcipfhdjaaGreatDoor.A

/-- A written parameter. -/
structure Wn where
  ahead : ByteArray
  behind : ByteArray
  name : ByteArray
  value : ByteArray
  quoted : Bool
def Wn.cells (x : Wn) : Array Value := #[.string x.ahead, .string x.behind, .string x.name, .string x.value, .bool x.quoted]
def Wn.fits (x : Wn) : Prop := x.ahead.size ≤ 2147483647 ∧ x.behind.size ≤ 2147483647 ∧ x.name.size ≤ 2147483647 ∧ x.value.size ≤ 2147483647
instance (x : Wn) : Decidable x.fits := by unfold Wn.fits; infer_instance

set_option maxHeartbeats 1000000 in
set_option maxRecDepth 100000 in
theorem fits1_any (x : Wn) (w : World) :
    Calls Tryz.prog 11 #[.agg x.cells] w fun e w' => e = .returned (.bool (decide x.fits)) ∧ Below w.heap.size w w' := by
  obtain ⟨a, b, n, v, q⟩ := x
  by_cases h1 : a.size ≤ 2147483647
  · by_cases h2 : b.size ≤ 2147483647
    · by_cases h3 : n.size ≤ 2147483647
      · by_cases h4 : v.size ≤ 2147483647
        · have G : Hid (decide (Wn.fits ⟨a, b, n, v, q⟩) = true) := Lib.hid (decide_eq_true ⟨h1, h2, h3, h4⟩)
          go_enter Tryz.func11, Tryz.ntmps11
          unfold Wn.cells
          go_wp2_with fail
          go_ret
          exact ⟨ret_bool G.out.symm, (Below.refl _ w).alloc (Nat.le_refl _) _⟩
        · have G : Hid (decide (Wn.fits ⟨a, b, n, v, q⟩) = false) := Lib.hid (decide_eq_false (fun h => h4 h.2.2.2))
          go_enter Tryz.func11, Tryz.ntmps11
          unfold Wn.cells
          go_wp2_with fail
          go_ret
          exact ⟨ret_bool G.out.symm, (Below.refl _ w).alloc (Nat.le_refl _) _⟩
      · have G : Hid (decide (Wn.fits ⟨a, b, n, v, q⟩) = false) := Lib.hid (decide_eq_false (fun h => h3 h.2.2.1))
        go_enter Tryz.func11, Tryz.ntmps11
        unfold Wn.cells
        go_wp2_with fail
        go_ret
        exact ⟨ret_bool G.out.symm, (Below.refl _ w).alloc (Nat.le_refl _) _⟩
    · have G : Hid (decide (Wn.fits ⟨a, b, n, v, q⟩) = false) := Lib.hid (decide_eq_false (fun h => h2 h.2.1))
      go_enter Tryz.func11, Tryz.ntmps11
      unfold Wn.cells
      go_wp2_with fail
      go_ret
      exact ⟨ret_bool G.out.symm, (Below.refl _ w).alloc (Nat.le_refl _) _⟩
  · have G : Hid (decide (Wn.fits ⟨a, b, n, v, q⟩) = false) := Lib.hid (decide_eq_false (fun h => h1 h.1))
    go_enter Tryz.func11, Tryz.ntmps11
    unfold Wn.cells
    go_wp2_with fail
    go_ret
    exact ⟨ret_bool G.out.symm, (Below.refl _ w).alloc (Nat.le_refl _) _⟩

end Go.Proofs.YtbklpdcipfhdjaaGreatDoor.H
