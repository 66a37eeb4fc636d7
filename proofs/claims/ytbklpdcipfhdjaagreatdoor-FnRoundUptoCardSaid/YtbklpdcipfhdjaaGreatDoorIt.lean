/- Small numbers in decimal: strconv.Itoa and spec.Number below 100; the builder's Reset. -/
import Derived.Test.YtbklpdcipfhdjaaGreatDoorCm
import Derived.Deep.QuietTactic
import Derived.BigQuiet
namespace Go.Proofs.YtbklpdcipfhdjaaGreatDoor.It
open Go.RowKit Go.Proofs.YtbklpdcipfhdjaaGreatDoor.A Go.Proofs.YtbklpdcipfhdjaaGreatDoor.D Go.Proofs.YtbklpdcipfhdjaaGreatDoor.P Go.Proofs.YtbklpdcipfhdjaaGreatDoor.Q Go.Proofs.YtbklpdcipfhdjaaGreatDoor.Bd

theorem below_drewN (B : Nat) (w : World) (n : Nat) : Below B w (w.drewN n) := ⟨rfl, rfl, rfl, Nat.le_refl _, fun _ _ => rfl⟩
/-- A number below 100 in decimal. -/
def num (n : Nat) : ByteArray := if n < 10 then ⟨#[UInt8.ofNat (48 + n)]⟩ else ⟨#[UInt8.ofNat (48 + n / 10), UInt8.ofNat (48 + n % 10)]⟩

abbrev smalls : ByteArray := { data := #[48, 48, 48, 49, 48, 50, 48, 51, 48, 52, 48, 53, 48, 54, 48, 55, 48, 56, 48, 57, 49, 48, 49, 49, 49, 50, 49, 51, 49, 52, 49, 53, 49, 54, 49, 55, 49, 56, 49, 57, 50, 48, 50, 49, 50, 50, 50, 51, 50, 52, 50, 53, 50, 54, 50, 55, 50, 56, 50, 57, 51, 48, 51, 49, 51, 50, 51, 51, 51, 52, 51, 53, 51, 54, 51, 55, 51, 56, 51, 57, 52, 48, 52, 49, 52, 50, 52, 51, 52, 52, 52, 53, 52, 54, 52, 55, 52, 56, 52, 57, 53, 48, 53, 49, 53, 50, 53, 51, 53, 52, 53, 53, 53, 54, 53, 55, 53, 56, 53, 57, 54, 48, 54, 49, 54, 50, 54, 51, 54, 52, 54, 53, 54, 54, 54, 55, 54, 56, 54, 57, 55, 48, 55, 49, 55, 50, 55, 51, 55, 52, 55, 53, 55, 54, 55, 55, 55, 56, 55, 57, 56, 48, 56, 49, 56, 50, 56, 51, 56, 52, 56, 53, 56, 54, 56, 55, 56, 56, 56, 57, 57, 48, 57, 49, 57, 50, 57, 51, 57, 52, 57, 53, 57, 54, 57, 55, 57, 56, 57, 57] }
abbrev digs : ByteArray := { data := #[48, 49, 50, 51, 52, 53, 54, 55, 56, 57, 97, 98, 99, 100, 101, 102, 103, 104, 105, 106, 107, 108, 109, 110, 111, 112, 113, 114, 115, 116, 117, 118, 119, 120, 121, 122] }
abbrev upper : ByteArray := { data := #[48, 49, 50, 51, 52, 53, 54, 55, 56, 57, 65, 66, 67, 68, 69, 70] }
theorem digs_num (i : Nat) (h : i < 10) : digs.extract i (i + 1) = num i := by
  apply eq_of_bl
  have : ∀ i, i < 10 → bl (digs.extract i (i + 1)) = bl (num i) := by decide +kernel
  exact this i h
theorem upper_num (i : Nat) (h : i < 10) : upper.extract i (i + 1) = num i := by
  apply eq_of_bl
  have : ∀ i, i < 10 → bl (upper.extract i (i + 1)) = bl (num i) := by decide +kernel
  exact this i h
theorem upper_num2 (i : Nat) (h : i < 100) (h1 : 10 ≤ i) : upper.extract (i / 10) (i / 10 + 1) ++ upper.extract (i % 10) (i % 10 + 1) = num i := by
  apply eq_of_bl
  have : ∀ i, i < 100 → 10 ≤ i → bl (upper.extract (i / 10) (i / 10 + 1) ++ upper.extract (i % 10) (i % 10 + 1)) = bl (num i) := by decide +kernel
  exact this i h h1
theorem smalls_num (i : Nat) (h : i < 100) (h1 : 10 ≤ i) : smalls.extract (i * 2) (i * 2 + 2) = num i := by
  apply eq_of_bl
  have : ∀ i, i < 100 → 10 ≤ i → bl (smalls.extract (i * 2) (i * 2 + 2)) = bl (num i) := by decide +kernel
  exact this i h h1


set_option maxHeartbeats 400000 in
set_option maxRecDepth 100000 in
theorem small_any (i : Nat) (hi : i < 100) (w : World) : Calls Tryz.prog 128 #[.int .i64 i] w fun e w' => e = .returned (.string (num i)) ∧ w = w' := by
  have h1 := digs_num i
  have h2 := smalls_num i hi
  have H1 := Lib.hid h1
  have H2 := Lib.hid h2
  clear h1 h2
  go_enter Tryz.func128, Tryz.ntmps128
  go_wp2_with fail
  all_goals go_ret
  · rename_i h
    exact ⟨by rw [← H1.out (by omega)]; rfl, rfl⟩
  · rename_i h
    exact ⟨by rw [← H2.out (by omega)]; rfl, rfl⟩

set_option maxHeartbeats 400000 in
set_option maxRecDepth 100000 in
theorem formatInt_any (i : Nat) (hi : i < 100) (w : World) : Calls Tryz.prog 112 #[.int .i64 i, .int .i64 10] w fun e w' => e = .returned (.string (num i)) ∧ w = w' := by
  have j1 : (i : Int) < 100 := by omega
  have H := Lib.hid (small_any i hi)
  go_enter Tryz.func112, Tryz.ntmps112
  go_wp2_with fail
  refine (H.out _).mono ?_
  rintro e w' ⟨rfl, rfl⟩
  go_wp2_with fail
  go_ret
  exact ⟨rfl, rfl⟩
set_option maxHeartbeats 400000 in
set_option maxRecDepth 100000 in
theorem itoa2_any (i : Nat) (hi : i < 100) (w : World) : Calls Tryz.prog 82 #[.int .i64 i] w fun e w' => e = .returned (.string (num i)) ∧ w = w' := by
  have H := Lib.hid (formatInt_any i hi)
  go_enter Tryz.func82, Tryz.ntmps82
  go_wp2_with fail
  refine (H.out _).mono ?_
  rintro e w' ⟨rfl, rfl⟩
  go_wp2_with fail
  go_ret
  exact ⟨rfl, rfl⟩
set_option maxHeartbeats 400000 in
set_option maxRecDepth 100000 in
theorem itoa_any (i : Nat) (hi : i < 100) (w : World) : Calls Tryz.prog 56 #[.int .i64 i] w fun e w' => e = .returned (.string (num i)) ∧ w = w' := by
  have H := Lib.hid (itoa2_any i hi)
  go_enter Tryz.func56, Tryz.ntmps56
  go_wp2_with fail
  refine (H.out _).mono ?_
  rintro e w' ⟨rfl, rfl⟩
  go_wp2_with fail
  go_ret
  exact ⟨rfl, rfl⟩

set_option maxHeartbeats 400000 in
set_option maxRecDepth 100000 in
theorem number_any (i : Nat) (hi : i < 100) (w : World) : Calls Tryz.prog 20 #[.int .i64 i] w fun e w' => e = .returned (.string (num i)) ∧ Below w.heap.size w w' := by
  have h1 := upper_num i
  have h2 := upper_num2 i hi
  have H1 := Lib.hid h1
  have H2 := Lib.hid h2
  clear h1 h2
  go_enter Tryz.func20, Tryz.ntmps20
  by_cases h10 : i < 10
  · have j1 : (i : Int) < 10 := by omega
    go_wp2_with fail
    go_ret
    exact ⟨by rw [← H1.out h10]; rfl, Below.refl _ _⟩
  · have j1 : ¬ (i : Int) < 10 := by omega
    go_wp2_with fail
    go_quiet (fail)
    go_wp2_with fail
    go_ret
    exact ⟨by rw [← H2.out (by omega)]; rfl, below_drewN _ _ _⟩

set_option maxHeartbeats 400000 in
set_option maxRecDepth 100000 in
/-- Reset: the builder is empty. -/
theorem reset_any (B b : Nat) (l : List UInt8) (w : World) (h : Bd B b l w) :
    Calls Tryz.prog 55 #[.pointer (some ⟨b, 0, none⟩)] w fun e w' => e = .returned (.tuple #[]) ∧ Bd B b [] w' ∧ Below B w w' ∧ w.grownBy w' (some b) := by
  obtain ⟨p, v, hp, hB, hb, hown, hne⟩ := h.open_
  have c0 : w.cell? ⟨b, 0, none⟩ = some p := by rw [Lib.cell_of_heap hb]; rfl
  have c1 : w.cell? ⟨b, 1, none⟩ = some v := by rw [Lib.cell_of_heap hb]; rfl
  have f0 : w.frozen? ⟨b, 0, none⟩ = false := Lib.frozen_of_heap hb 0
  have f1 : w.frozen? ⟨b, 1, none⟩ = false := Lib.frozen_of_heap hb 1
  have HB := Lib.hid hb
  clear hown hne h hp hb
  go_enter Tryz.func55, Tryz.ntmps55
  go_wp2_with fail
  go_end0
  refine ⟨rfl, ?_, ((Below.refl B w).setCell (p := ⟨b, 0, none⟩) hB _).setCell (p := ⟨b, 1, none⟩) hB _, ?_⟩
  · exact .inl ⟨hB, .slice none 0 0, by simp [World.setCell, Array.getElem?_modify, HB.out], World.ownsRowF_nil _ _ _ _, by simp [Value.ownBlock]⟩
  · exact ⟨rfl, rfl, rfl, by simp [World.setCell], fun k _ hk => (Below.heap_setCell _ _ _ _ (fun e => hk (by simp [e]))).trans (Below.heap_setCell _ _ _ _ (fun e => hk (by simp [e])))⟩
end Go.Proofs.YtbklpdcipfhdjaaGreatDoor.It
