/- The walk of writeQString: it writes the Q encoding of its bytes. -/
import Derived.Test.YtedhgkddfgpfhaaDoorE
namespace Go.Proofs.YtedhgkddfgpfhaaDoor.F
open Go.RowKit Go.Proofs.YtedhgkddfgpfhaaDoor.Bd Go.Proofs.YtedhgkddfgpfhaaDoor.Q Go.Proofs.YtedhgkddfgpfhaaDoor.E

theorem take_succ (s : ByteArray) (k : Nat) (h : k < s.size) : s.data.toList.take (k + 1) = s.data.toList.take k ++ [s[k]] := by
  rw [List.take_succ_eq_append_getElem (by simpa using h)]; rfl

/-- The Q encoding of the first k bytes. -/
def qtk (s : ByteArray) (k : Nat) : List UInt8 := qenc (s.data.toList.take k)
theorem qtk_zero (s : ByteArray) : qtk s 0 = [] := rfl
theorem qtk_succ (s : ByteArray) (k : Nat) (h : k < s.size) : qtk s (k + 1) = qtk s k ++ qch s[k] := by rw [qtk, qtk, take_succ s k h, qenc_snoc]
theorem qtk_len (s : ByteArray) (k : Nat) : (qtk s k).length ≤ 3 * k := by
  have h1 := qenc_len (s.data.toList.take k)
  have h2 := List.length_take_le k s.data.toList
  unfold qtk; omega

theorem dig (n : Nat) (h : n < (⟨#[48, 49, 50, 51, 52, 53, 54, 55, 56, 57, 65, 66, 67, 68, 69, 70]⟩ : ByteArray).size) : UInt8.ofNat ((⟨#[48, 49, 50, 51, 52, 53, 54, 55, 56, 57, 65, 66, 67, 68, 69, 70]⟩ : ByteArray)[n]'h).toNat = hexd n := by
  have h' : n < 16 := h
  have : n = 0 ∨ n = 1 ∨ n = 2 ∨ n = 3 ∨ n = 4 ∨ n = 5 ∨ n = 6 ∨ n = 7 ∨ n = 8 ∨ n = 9 ∨ n = 10 ∨ n = 11 ∨ n = 12 ∨ n = 13 ∨ n = 14 ∨ n = 15 := by omega
  rcases this with rfl | rfl | rfl | rfl | rfl | rfl | rfl | rfl | rfl | rfl | rfl | rfl | rfl | rfl | rfl | rfl <;> rfl

set_option maxHeartbeats 8000000 in
set_option maxRecDepth 100000 in
theorem writeQ_any (B b : Nat) (l : List UInt8) (s : ByteArray) (w : World) (h : Bd B b l w) (hs : s.size ≤ 1099511627776) (hlen : l.length ≤ 1099511627776) (hBw : B ≤ w.heap.size) :
    Calls Tryd.prog 55 #[.pointer (some ⟨b, 0, none⟩), .string s] w fun r w' => r = .returned (.tuple #[]) ∧ Bd B b (l ++ qenc s.data.toList) w' ∧ Wk B b w w' := by
  go_enter Tryd.func55, Tryd.ntmps55
  go_wp2_with fail
  go_loopw [4] (fun i wr => ∃ k : Nat, k ≤ s.size ∧ i = .int .i64 k ∧ Bd B b (l ++ qtk s k) wr ∧ Wk B b w wr) (fun i _ => s.size - (intOf i).toNat)
  case atStart => exact ⟨0, Nat.zero_le _, rfl, by simpa [qtk_zero] using h, Wk.refl _ _ _⟩
  case round =>
    obtain ⟨k, hk, rfl, hb, hw⟩ := hrel
    have hz := hw.size
    by_cases hlt : k < s.size
    · have bd := s[k].toNat_lt
      have hq := qtk_len s k
      have hql : (l ++ qtk s k).length ≤ 4398046511104 := by rw [List.length_append]; omega
      have Hs := Lib.hid (qtk_succ s k hlt)
      by_cases h32 : (s[k].toNat : Int) = 32
      · have b1 : ((s[k].toNat : Int) == 32) = true := by rw [beq_iff_eq]; exact h32
        have Hq : Hid (qch s[k] = [95]) := Lib.hid (by unfold qch; rw [if_pos (by omega)])
        clear h32
        go_wp2_with fail
        refine (WriteByte_any B b _ 95 (by omega) _ hb (by omega) (by omega)).mono ?_
        rintro r w1 ⟨rfl, h1, k1⟩
        go_wp2_with fail
        go_roundw
        case rel => exact ⟨k + 1, by omega, by go_num, by rw [Hs.out, Hq.out, ← List.append_assoc]; exact h1, hw.trans (Wk.of k1)⟩
        case measure => simp [intOf]; omega
      · have b1 : ((s[k].toNat : Int) == 32) = false := by rw [beq_eq_false_iff_ne]; exact h32
        by_cases hp : plainQ s[k] = true
        · have Hq : Hid (qch s[k] = [s[k]]) := Lib.hid (by unfold qch; rw [if_neg (by omega), if_pos hp])
          obtain ⟨p1, p2, p3, p4, p5⟩ : 33 ≤ s[k].toNat ∧ s[k].toNat ≤ 126 ∧ s[k].toNat ≠ 61 ∧ s[k].toNat ≠ 63 ∧ s[k].toNat ≠ 95 := by
            unfold plainQ at hp; simp at hp; omega
          clear hp h32
          have b2 : decide ((33 : Int) ≤ s[k].toNat) = true := decide_eq_true (by omega)
          have b3 : decide ((s[k].toNat : Int) ≤ 126) = true := decide_eq_true (by omega)
          have b4 : ((s[k].toNat : Int) != 61) = true := bne_iff_ne.mpr (by omega)
          have b5 : ((s[k].toNat : Int) != 63) = true := bne_iff_ne.mpr (by omega)
          have b6 : ((s[k].toNat : Int) != 95) = true := bne_iff_ne.mpr (by omega)
          go_wp2_with fail
          refine (WriteByte_any B b _ s[k].toNat bd _ hb (by omega) (by omega)).mono ?_
          rintro r w1 ⟨rfl, h1, k1⟩
          go_wp2_with fail
          go_roundw
          case rel => exact ⟨k + 1, by omega, by go_num, by rw [Hs.out, Hq.out, ← List.append_assoc]; simpa using h1, hw.trans (Wk.of k1)⟩
          case measure => simp [intOf]; omega
        · have Hq : Hid (qch s[k] = [61, hexd (s[k].toNat / 16), hexd (s[k].toNat % 16)]) := Lib.hid (by unfold qch; rw [if_neg (by omega), if_neg hp])
          have hc : s[k].toNat < 33 ∨ (33 ≤ s[k].toNat ∧ 126 < s[k].toNat) ∨ s[k].toNat = 61 ∨ s[k].toNat = 63 ∨ s[k].toNat = 95 := by
            unfold plainQ at hp; simp at hp; omega
          clear hp h32
          have hx0 : s[k].toNat / 16 < 16 := by omega
          have hx1 : s[k].toNat % 16 < 16 := by omega
          rcases hc with hc | hc | hc | hc | hc
          · have b2 : decide ((33 : Int) ≤ s[k].toNat) = false := decide_eq_false (by omega)
            clear hc
            go_wp2_with fail
            refine (WriteByte_any B b _ 61 (by omega) _ hb (by omega) (by omega)).mono ?_
            rintro r w1 ⟨rfl, h1, k1⟩
            have z1 := k1.below.size
            go_wp2_with fail
            refine (WriteByte_any B b _ _ (UInt8.toNat_lt _) _ h1 (by rw [List.length_append]; simp only [List.length_cons, List.length_nil]; omega) (by omega)).mono ?_
            rintro r w2 ⟨rfl, h2, k2⟩
            have z2 := k2.below.size
            rw [dig] at h2
            go_wp2_with fail
            refine (WriteByte_any B b _ _ (UInt8.toNat_lt _) _ h2 (by rw [List.length_append, List.length_append]; simp only [List.length_cons, List.length_nil]; omega) (by omega)).mono ?_
            rintro r w3 ⟨rfl, h3, k3⟩
            rw [dig] at h3
            go_wp2_with fail
            go_roundw
            case rel => exact ⟨k + 1, by omega, by go_num, by rw [Hs.out, Hq.out, ← List.append_assoc]; simpa using h3, ((hw.trans (Wk.of k1)).trans (Wk.of k2)).trans (Wk.of k3)⟩
            case measure => simp [intOf]; omega
          · have b2 : decide ((33 : Int) ≤ s[k].toNat) = true := decide_eq_true (by omega)
            have b3 : decide ((s[k].toNat : Int) ≤ 126) = false := decide_eq_false (by omega)
            clear hc
            go_wp2_with fail
            refine (WriteByte_any B b _ 61 (by omega) _ hb (by omega) (by omega)).mono ?_
            rintro r w1 ⟨rfl, h1, k1⟩
            have z1 := k1.below.size
            go_wp2_with fail
            refine (WriteByte_any B b _ _ (UInt8.toNat_lt _) _ h1 (by rw [List.length_append]; simp only [List.length_cons, List.length_nil]; omega) (by omega)).mono ?_
            rintro r w2 ⟨rfl, h2, k2⟩
            have z2 := k2.below.size
            rw [dig] at h2
            go_wp2_with fail
            refine (WriteByte_any B b _ _ (UInt8.toNat_lt _) _ h2 (by rw [List.length_append, List.length_append]; simp only [List.length_cons, List.length_nil]; omega) (by omega)).mono ?_
            rintro r w3 ⟨rfl, h3, k3⟩
            rw [dig] at h3
            go_wp2_with fail
            go_roundw
            case rel => exact ⟨k + 1, by omega, by go_num, by rw [Hs.out, Hq.out, ← List.append_assoc]; simpa using h3, ((hw.trans (Wk.of k1)).trans (Wk.of k2)).trans (Wk.of k3)⟩
            case measure => simp [intOf]; omega
          · have b2 : decide ((33 : Int) ≤ s[k].toNat) = true := decide_eq_true (by omega)
            have b3 : decide ((s[k].toNat : Int) ≤ 126) = true := decide_eq_true (by omega)
            have b4 : ((s[k].toNat : Int) != 61) = false := bne_eq_false_iff_eq.mpr (by omega)
            clear hc
            go_wp2_with fail
            refine (WriteByte_any B b _ 61 (by omega) _ hb (by omega) (by omega)).mono ?_
            rintro r w1 ⟨rfl, h1, k1⟩
            have z1 := k1.below.size
            go_wp2_with fail
            refine (WriteByte_any B b _ _ (UInt8.toNat_lt _) _ h1 (by rw [List.length_append]; simp only [List.length_cons, List.length_nil]; omega) (by omega)).mono ?_
            rintro r w2 ⟨rfl, h2, k2⟩
            have z2 := k2.below.size
            rw [dig] at h2
            go_wp2_with fail
            refine (WriteByte_any B b _ _ (UInt8.toNat_lt _) _ h2 (by rw [List.length_append, List.length_append]; simp only [List.length_cons, List.length_nil]; omega) (by omega)).mono ?_
            rintro r w3 ⟨rfl, h3, k3⟩
            rw [dig] at h3
            go_wp2_with fail
            go_roundw
            case rel => exact ⟨k + 1, by omega, by go_num, by rw [Hs.out, Hq.out, ← List.append_assoc]; simpa using h3, ((hw.trans (Wk.of k1)).trans (Wk.of k2)).trans (Wk.of k3)⟩
            case measure => simp [intOf]; omega
          · have b2 : decide ((33 : Int) ≤ s[k].toNat) = true := decide_eq_true (by omega)
            have b3 : decide ((s[k].toNat : Int) ≤ 126) = true := decide_eq_true (by omega)
            have b4 : ((s[k].toNat : Int) != 61) = true := bne_iff_ne.mpr (by omega)
            have b5 : ((s[k].toNat : Int) != 63) = false := bne_eq_false_iff_eq.mpr (by omega)
            clear hc
            go_wp2_with fail
            refine (WriteByte_any B b _ 61 (by omega) _ hb (by omega) (by omega)).mono ?_
            rintro r w1 ⟨rfl, h1, k1⟩
            have z1 := k1.below.size
            go_wp2_with fail
            refine (WriteByte_any B b _ _ (UInt8.toNat_lt _) _ h1 (by rw [List.length_append]; simp only [List.length_cons, List.length_nil]; omega) (by omega)).mono ?_
            rintro r w2 ⟨rfl, h2, k2⟩
            have z2 := k2.below.size
            rw [dig] at h2
            go_wp2_with fail
            refine (WriteByte_any B b _ _ (UInt8.toNat_lt _) _ h2 (by rw [List.length_append, List.length_append]; simp only [List.length_cons, List.length_nil]; omega) (by omega)).mono ?_
            rintro r w3 ⟨rfl, h3, k3⟩
            rw [dig] at h3
            go_wp2_with fail
            go_roundw
            case rel => exact ⟨k + 1, by omega, by go_num, by rw [Hs.out, Hq.out, ← List.append_assoc]; simpa using h3, ((hw.trans (Wk.of k1)).trans (Wk.of k2)).trans (Wk.of k3)⟩
            case measure => simp [intOf]; omega
          · have b2 : decide ((33 : Int) ≤ s[k].toNat) = true := decide_eq_true (by omega)
            have b3 : decide ((s[k].toNat : Int) ≤ 126) = true := decide_eq_true (by omega)
            have b4 : ((s[k].toNat : Int) != 61) = true := bne_iff_ne.mpr (by omega)
            have b5 : ((s[k].toNat : Int) != 63) = true := bne_iff_ne.mpr (by omega)
            have b6 : ((s[k].toNat : Int) != 95) = false := bne_eq_false_iff_eq.mpr (by omega)
            clear hc
            go_wp2_with fail
            refine (WriteByte_any B b _ 61 (by omega) _ hb (by omega) (by omega)).mono ?_
            rintro r w1 ⟨rfl, h1, k1⟩
            have z1 := k1.below.size
            go_wp2_with fail
            refine (WriteByte_any B b _ _ (UInt8.toNat_lt _) _ h1 (by rw [List.length_append]; simp only [List.length_cons, List.length_nil]; omega) (by omega)).mono ?_
            rintro r w2 ⟨rfl, h2, k2⟩
            have z2 := k2.below.size
            rw [dig] at h2
            go_wp2_with fail
            refine (WriteByte_any B b _ _ (UInt8.toNat_lt _) _ h2 (by rw [List.length_append, List.length_append]; simp only [List.length_cons, List.length_nil]; omega) (by omega)).mono ?_
            rintro r w3 ⟨rfl, h3, k3⟩
            rw [dig] at h3
            go_wp2_with fail
            go_roundw
            case rel => exact ⟨k + 1, by omega, by go_num, by rw [Hs.out, Hq.out, ← List.append_assoc]; simpa using h3, ((hw.trans (Wk.of k1)).trans (Wk.of k2)).trans (Wk.of k3)⟩
            case measure => simp [intOf]; omega
    · have G : qtk s k = qenc s.data.toList := by unfold qtk; rw [List.take_of_length_le (by simp; omega)]
      have HG := Lib.hid G
      clear G
      go_wp2_with fail
      go_end0
      exact ⟨rfl, by rw [← HG.out]; exact hb, hw⟩

end Go.Proofs.YtedhgkddfgpfhaaDoor.F
