/- Walks of the functions that write the beginning and the end of an encoded word. -/
import Derived.Test.YtedhgkddfgpfhaaDoorBd
import Derived.Test.YtedhgkddfgpfhaaDoorShelf
import Derived.Test.YtedhgkddfgpfhaaDoorQ
namespace Go.Proofs.YtedhgkddfgpfhaaDoor.E
open Go.RowKit Go.Proofs.YtedhgkddfgpfhaaDoor.Bd Go.Proofs.YtedhgkddfgpfhaaDoor.Q

/-- What several writes leave as it was. -/
structure Wk (B b : Nat) (w w' : World) : Prop where
  below : Below B w w'
  others : Lib.OthersKept 5 (some b) w w'
theorem Wk.of {B b : Nat} {w w' : World} (h : Wr B b w w') : Wk B b w w' := ⟨h.below, h.others⟩
theorem Wk.refl (B b : Nat) (w : World) : Wk B b w w := ⟨Below.refl _ _, Lib.OthersKept.refl _ _ _⟩
theorem Wk.trans {B b : Nat} {a c d : World} (h : Wk B b a c) (k : Wk B b c d) : Wk B b a d := ⟨h.below.trans k.below, h.others.trans k.others⟩
theorem Wk.size {B b : Nat} {w w' : World} (h : Wk B b w w') : w.heap.size ≤ w'.heap.size := h.below.size

set_option maxHeartbeats 1000000 in
theorem openWord_any (B b : Nat) (l : List UInt8) (e : Nat) (he : e < 256) (cs : ByteArray) (w : World) (h : Bd B b l w) (hcs : cs.data.toList = [117, 116, 102, 45, 56]) (hlen : l.length + 20 ≤ 140737488355328) (hBw : B ≤ w.heap.size) :
    Calls Tryd.prog 35 #[.int .u8 e, .pointer (some ⟨b, 0, none⟩), .string cs] w fun r w' => r = .returned (.tuple #[]) ∧ Bd B b (l ++ opn (UInt8.ofNat e)) w' ∧ Wk B b w w' := by
  have hsz : cs.size = 5 := by have := congrArg List.length hcs; simpa using this
  have HS := Lib.hid hsz
  have HC := Lib.hid hcs
  clear hsz hcs
  go_enter Tryd.func35, Tryd.ntmps35
  go_wp2_with fail
  refine (WriteString_any B b l _ _ h (by show l.length + 2 ≤ _; omega) hBw).mono ?_
  rintro r w1 ⟨rfl, h1, k1⟩
  have z1 := k1.below.size
  go_wp2_with fail
  refine (WriteString_any B b _ cs _ h1 (by rw [HS.out]; simp; omega) (by omega)).mono ?_
  rintro r w2 ⟨rfl, h2, k2⟩
  have z2 := k2.below.size
  go_wp2_with fail
  refine (WriteByte_any B b _ 63 (by omega) _ h2 (by rw [HC.out]; simp; omega) (by omega)).mono ?_
  rintro r w3 ⟨rfl, h3, k3⟩
  have z3 := k3.below.size
  go_wp2_with fail
  refine (WriteByte_any B b _ e he _ h3 (by rw [HC.out]; simp; omega) (by omega)).mono ?_
  rintro r w4 ⟨rfl, h4, k4⟩
  have z4 := k4.below.size
  go_wp2_with fail
  refine (WriteByte_any B b _ 63 (by omega) _ h4 (by rw [HC.out]; simp; omega) (by omega)).mono ?_
  rintro r w5 ⟨rfl, h5, k5⟩
  go_wp2_with fail
  go_end0
  refine ⟨rfl, ?_, (((((Wk.of k1).trans (Wk.of k2)).trans (Wk.of k3)).trans (Wk.of k4)).trans (Wk.of k5))⟩
  rw [HC.out] at h5
  simpa [opn] using h5

set_option maxHeartbeats 1000000 in
theorem closeWord_any (B b : Nat) (l : List UInt8) (w : World) (h : Bd B b l w) (hlen : l.length + 2 ≤ 140737488355328) (hBw : B ≤ w.heap.size) :
    Calls Tryd.prog 38 #[.pointer (some ⟨b, 0, none⟩)] w fun r w' => r = .returned (.tuple #[]) ∧ Bd B b (l ++ [63, 61]) w' ∧ Wk B b w w' := by
  go_enter Tryd.func38, Tryd.ntmps38
  go_wp2_with fail
  refine (WriteString_any B b l _ _ h (by show l.length + 2 ≤ _; omega) hBw).mono ?_
  rintro r w1 ⟨rfl, h1, k1⟩
  go_wp2_with fail
  go_end0
  exact ⟨rfl, by simpa using h1, Wk.of k1⟩

set_option maxHeartbeats 1000000 in
theorem splitWord_any (B b : Nat) (l : List UInt8) (e : Nat) (he : e < 256) (cs : ByteArray) (w : World) (h : Bd B b l w) (hcs : cs.data.toList = [117, 116, 102, 45, 56]) (hlen : l.length + 30 ≤ 140737488355328) (hBw : B ≤ w.heap.size) :
    Calls Tryd.prog 54 #[.int .u8 e, .pointer (some ⟨b, 0, none⟩), .string cs] w fun r w' => r = .returned (.tuple #[]) ∧ Bd B b (l ++ [63, 61, 32] ++ opn (UInt8.ofNat e)) w' ∧ Wk B b w w' := by
  have HC := Lib.hid hcs
  clear hcs
  go_enter Tryd.func54, Tryd.ntmps54
  go_wp2_with fail
  refine (closeWord_any B b l _ h (by omega) hBw).mono ?_
  rintro r w1 ⟨rfl, h1, k1⟩
  have z1 := k1.below.size
  go_wp2_with fail
  refine (WriteByte_any B b _ 32 (by omega) _ h1 (by simp; omega) (by omega)).mono ?_
  rintro r w2 ⟨rfl, h2, k2⟩
  have z2 := k2.below.size
  go_wp2_with fail
  refine (openWord_any B b _ e he cs _ h2 HC.out (by simp; omega) (by omega)).mono ?_
  rintro r w3 ⟨rfl, h3, k3⟩
  go_wp2_with fail
  go_end0
  exact ⟨rfl, by simpa using h3, (k1.trans (Wk.of k2)).trans k3⟩

theorem ascii_of (l : List UInt8) (h : l.all (fun b => decide (b.toNat < 128)) = true) : ∀ (j : Nat) b, l[j]? = some b → b.toNat < 128 := by
  intro j b hj
  have := List.all_eq_true.1 h b (List.mem_of_getElem? hj)
  simpa using this
theorem ret_b {a b : Bool} (h : a = b) : Ending.returned (.bool a) = .returned (.bool b) := by rw [h]

set_option maxHeartbeats 1000000 in
theorem isUTF8_any (cs : ByteArray) (w : World) (hcs : cs.data.toList = [117, 116, 102, 45, 56]) :
    Calls Tryd.prog 52 #[.string cs] w fun r w' => r = .returned (.bool true) ∧ w = w' := by
  have hsz : cs.size = 5 := by have := congrArg List.length hcs; simpa using this
  have HS := Lib.hid hsz
  have HC := Lib.hid hcs
  clear hsz hcs
  go_enter Tryd.func52, Tryd.ntmps52
  go_wp2_with fail
  have hT : Calls Tryd.prog 26 #[.string cs, .string ⟨#[85, 84, 70, 45, 56]⟩] w fun e w' => e = .returned (.bool true) ∧ w = w' := by
    refine (Tryd.strings_EqualFold cs ⟨#[85, 84, 70, 45, 56]⟩ w (by rw [HS.out]; omega) (by rw [HC.out]; exact ascii_of _ (by decide)) (ascii_of _ (by decide))).mono ?_
    rintro e w' ⟨rfl, rfl⟩
    rw [HC.out]
    exact ⟨ret_b (by decide), rfl⟩
  refine hT.mono ?_
  rintro r w1 ⟨rfl, rfl⟩
  go_wp2_with fail
  go_ret
  exact ⟨rfl, rfl⟩

end Go.Proofs.YtedhgkddfgpfhaaDoor.E
