/- The walk of impl.Parse at an error of a parameter. -/
import Derived.Test.YtbklpdcipfhdjaaGreatDoorT
import Derived.Test.YtbklpdcipfhdjaaGreatDoorShelfB
import Derived.Laws.IdiomRangeMap
import Derived.LaidEql
namespace Go.Proofs.YtbklpdcipfhdjaaGreatDoor.U
open Go.RowKit Go.Proofs.YtbklpdcipfhdjaaGreatDoor.G Go.Proofs.YtbklpdcipfhdjaaGreatDoor.P Go.Proofs.YtbklpdcipfhdjaaGreatDoor.Q Go.Proofs.YtbklpdcipfhdjaaGreatDoor.R

theorem cmp188 : (Tryz.prog.info? 188).map (·.comparable) = some true := by kernel_rfl
theorem has202 : (Tryz.prog.info? 202).isSome = true := by kernel_rfl
theorem eqErr (a : Addr) (w : World) : (binOp .eql 54 (.iface 188 (.pointer (some a))) (.iface 188 (.pointer (some a)))).run Tryz.prog w = .ok (.bool true) w := by
  obtain ⟨i, hi, hc⟩ := Option.map_eq_some_iff.1 cmp188
  obtain ⟨j, hj⟩ := Option.isSome_iff_exists.1 has202
  exact run_eql_iface_ptr_same w a Tryz.underlying54 Tryz.underlying188 hi hc hj

set_option maxHeartbeats 1000000 in
set_option maxRecDepth 100000 in
theorem impl_err (a : Addr) (e1 : Value) (s m : ByteArray) (w : World) (hE : Env (.iface 188 (.pointer (some a))) e1 w)
    (h : Calls Tryz.prog 35 #[.string s] w fun e w' => e = .returned (.tuple #[.string m, .map none, .iface 188 (.pointer (some a))]) ∧ Below w.heap.size w w') :
    Calls Tryz.prog 14 #[.string s] w fun e w' => e = .returned (.tuple #[.string m, .slice none 0 0, .int .i64 1]) ∧ Below w.heap.size w w' := by
  go_enter Tryz.func14, Tryz.ntmps14
  go_wp2_with fail
  refine h.mono ?_
  rintro e w1 ⟨rfl, g1⟩
  have hE1 := hE.below g1
  have hc := hE1.err
  have hr := run_range_nilMap (P := Tryz.prog) w1 52 9 9 Tryz.underlying52
  have hn := fun ty => run_next_nilMap (P := Tryz.prog) w1 ty
  have hc1 : (w1.alloc (.mapIter none 0 #[] 0)).cell? ⟨0, 0, none⟩ = some (.iface 188 (.pointer (some a))) := by
    rw [← hc]
    exact ((Below.refl w1.heap.size w1).alloc (Nat.le_refl _) _).cell (p := ⟨0, 0, none⟩) (cell_lt hc)
  have HG : Hid (Below w.heap.size w (w1.alloc (.mapIter none 0 #[] 0))) := Lib.hid (g1.alloc g1.size _)
  have heq := eqErr a (w1.alloc (.mapIter none 0 #[] 0))
  have hs := Tryz.SortFunc_none none 0 (.func (.func 37) #[] #[]) (w1.alloc (.mapIter none 0 #[] 0))
  clear g1 hc hE hE1
  go_wp2_with fail
  refine wp_loop_rounds 1 ?_
  rw [rounds_succ]
  go_wp2_with fail
  refine hs.mono ?_
  rintro e w2 ⟨rfl, rfl⟩
  go_wp2_with fail
  go_ret3
  exact ⟨rfl, HG.out⟩

end Go.Proofs.YtbklpdcipfhdjaaGreatDoor.U
