/- The walks of SamePairs and slices.Equal at two lists that are the same. -/
import Derived.Test.YtbklpdcipfhdjaaGreatDoorPk
import Derived.Laws.StructEq
namespace Go.Proofs.YtbklpdcipfhdjaaGreatDoor.Eq
open Go.RowKit Go.Proofs.YtbklpdcipfhdjaaGreatDoor.P Go.Proofs.YtbklpdcipfhdjaaGreatDoor.Q Go.Proofs.YtbklpdcipfhdjaaGreatDoor.R Go.Proofs.YtbklpdcipfhdjaaGreatDoor.W

theorem fields38 : Tryz.prog.underlying 38 = some (.struct (Tryz.prog.fieldsOf 38)) := by kernel_rfl
theorem stood38 : Tryz.prog.stoodInHeld 38 = false := by kernel_rfl
theorem guard38 : Tryz.prog.eqGuardType Tryz.prog.depth 38 = false := by kernel_rfl

theorem neqP (a b : ByteArray) (w : World) : (binOp .neq 38 (.agg #[.string a, .string b]) (.agg #[.string a, .string b])).run Tryz.prog w = .ok (.bool false) w := by
  have u9 := Tryz.underlying9
  have a9 := Tryz.isAgg9
  have z9 := Tryz.sizeOf9
  rw [run_neq_struct, show (10000 : Nat) = 9999 + 1 from rfl, run_equalIn_agg w 9999 38 _ _ fields38 stood38]
  simp only [Program.fieldsOf, Tryz.underlying38]
  go_simp

set_option maxHeartbeats 400000 in
set_option maxRecDepth 100000 in
theorem equal_nil (a b : Option Addr) (c d : Nat) (w : World) :
    Calls Tryz.prog 41 #[.slice a 0 c, .slice b 0 d] w fun e w' => e = .returned (.bool true) ∧ Below w.heap.size w w' := by
  go_enter Tryz.func41, Tryz.ntmps41
  go_wp2_with fail
  refine wp_loop_rounds 1 ?_
  rw [rounds_succ]
  go_wp2_with fail
  go_ret
  exact ⟨rfl, Below.refl _ _⟩

set_option maxHeartbeats 1000000 in
set_option maxRecDepth 100000 in
theorem equal_same (b1 b2 c1 c2 : Nat) (l : List Pr) (w : World) (hl : l.length ≤ 1099511627776) (h1 : RowP w b1 0 l) (h2 : RowP w b2 0 l) :
    Calls Tryz.prog 41 #[.slice (some ⟨b1, 0, none⟩) l.length c1, .slice (some ⟨b2, 0, none⟩) l.length c2] w fun e w' => e = .returned (.bool true) ∧ Below w.heap.size w w' := by
  have H1 := Lib.hid h1
  have H2 := Lib.hid h2
  clear h1 h2
  generalize hn : l.length = n at *
  have HN := Lib.hid hn
  clear hn
  have hgd : ∀ (x y : Operand) (xs ys : Array Value) (W : World), (eqGuard .neq 38 x y (.agg xs) (.agg ys)).run Tryz.prog W = .ok () W := fun x y xs ys W => run_eqGuard_agg W .neq 38 x y xs ys guard38
  go_enter Tryz.func41, Tryz.ntmps41
  go_wp2_with fail
  go_loopw [13] (fun i wr => ∃ k : Nat, k ≤ n ∧ i = .int .i64 k ∧ Hid (Below w.heap.size w wr)) (fun i _ => n - (intOf i).toNat)
  case atStart => exact ⟨0, Nat.zero_le _, rfl, Lib.hid (Below.refl _ _)⟩
  case round =>
    obtain ⟨k, hk, rfl, HB⟩ := hrel
    by_cases hlt : k < n
    · obtain ⟨x, hx⟩ : ∃ x, l[k]? = some x := ⟨l[k]'(by rw [HN.out]; exact hlt), List.getElem?_eq_getElem _⟩
      obtain ⟨d0, d1⟩ := (H1.out.below HB.out) k x hx
      obtain ⟨e0, e1⟩ := (H2.out.below HB.out) k x hx
      rw [Nat.zero_add] at d0 d1 e0 e1
      have hne := neqP x.1 x.2
      have j1 : (0 : Int) ≤ (k : Int) := by omega
      have j2 : (k : Int) < (n : Int) := by omega
      clear hx
      go_wp2_with fail
      go_quiet (fail)
      go_wp2_with fail
      exact ⟨⟨k + 1, by omega, by go_num, Lib.hid ⟨HB.out.os, HB.out.tape, HB.out.output, HB.out.size, HB.out.block⟩⟩, by simp [intOf]; omega⟩
    · obtain rfl : k = n := by omega
      go_wp2_with fail
      go_ret
      exact ⟨rfl, HB.out⟩

end Go.Proofs.YtbklpdcipfhdjaaGreatDoor.Eq
