/- Walks of IsToken and of Type, for strings of at most 2^40 bytes. -/
import Derived.Test.YtbklpdcipfhdjaaGreatDoorD
namespace Go.Proofs.YtbklpdcipfhdjaaGreatDoor.E
open Go.RowKit Go.Proofs.YtbklpdcipfhdjaaGreatDoor.A Go.Proofs.YtbklpdcipfhdjaaGreatDoor.C Go.Proofs.YtbklpdcipfhdjaaGreatDoor.D

/-- A token and nothing else. -/
def isTok (s : ByteArray) : Bool := decide (0 < s.size) && (tokS s == s.size)

set_option maxHeartbeats 1000000 in
set_option maxRecDepth 100000 in
theorem isToken_any (s : ByteArray) (w : World) (hs : s.size ≤ 1099511627776) :
    Calls Tryz.prog 33 #[.string s] w fun e w' => e = .returned (.bool (isTok s)) ∧ w = w' := by
  by_cases h0 : s.toList = []
  · have G : Hid (isTok s = false) := by
      refine Lib.hid ?_
      have hz : s.size = 0 := by
        have := congrArg List.length h0
        rw [Lib.toList_data] at this
        simpa using this
      simp [isTok, hz]
    go_enter Tryz.func33, Tryz.ntmps33
    go_wp2_with fail
    go_ret
    exact ⟨ret_bool G.out.symm, rfl⟩
  · have hz : 0 < s.size := by
      rcases Nat.eq_zero_or_pos s.size with h1 | h1
      · exfalso
        apply h0
        rw [Lib.toList_data]
        exact List.eq_nil_of_length_eq_zero (by simpa using h1)
      · exact h1
    cases hb : (tokS s == s.size) with
    | true =>
      have G : Hid (isTok s = true) := Lib.hid (by simp [isTok, hz, hb])
      have b1 : ((tokS s : Int) == (s.size : Int)) = true := by
        rw [beq_iff_eq] at hb ⊢; omega
      clear hb
      go_enter Tryz.func33, Tryz.ntmps33
      go_wp2_with fail
      refine (tokenEnd_any s w hs).mono ?_
      rintro r w1 ⟨rfl, rfl⟩
      go_wp2_with fail
      go_ret
      exact ⟨ret_bool (by rw [G.out]; simpa using h0), rfl⟩
    | false =>
      have G : Hid (isTok s = false) := Lib.hid (by simp [isTok, hb])
      have b1 : ((tokS s : Int) == (s.size : Int)) = false := by
        rw [beq_eq_false_iff_ne] at hb ⊢; omega
      clear hb
      go_enter Tryz.func33, Tryz.ntmps33
      go_wp2_with fail
      refine (tokenEnd_any s w hs).mono ?_
      rintro r w1 ⟨rfl, rfl⟩
      go_wp2_with fail
      go_ret
      exact ⟨ret_bool G.out.symm, rfl⟩

/-- A media type: a token, or two with a slash between. -/
def isType (s : ByteArray) : Bool := decide (0 < tokS s) && ((tokS s == s.size) || (if h : tokS s < s.size then (s[tokS s] == 47) && isTok (s.extract (tokS s + 1) s.size) else false))

theorem tokS_le (s : ByteArray) : tokS s ≤ s.size := by
  unfold tokS tl
  have h := (List.takeWhile_sublist (fun x : UInt8 => tokB x.toNat) (l := s.data.toList)).length_le
  simpa using h

set_option maxHeartbeats 1000000 in
set_option maxRecDepth 100000 in
theorem type_any (s : ByteArray) (w : World) (hs : s.size ≤ 1099511627776) :
    Calls Tryz.prog 12 #[.string s] w fun e w' => e = .returned (.bool (isType s)) ∧ w = w' := by
  have hle := tokS_le s
  have hc := tokenEnd_any s w hs
  obtain ⟨k, hk⟩ : ∃ k, k = tokS s := ⟨_, rfl⟩
  rw [← hk] at hc hle
  have HC := Lib.hid hc
  clear hc
  by_cases h0 : 0 < k
  · by_cases h1 : k = s.size
    · have G : Hid (isType s = true) := Lib.hid (by unfold isType; rw [← hk]; simp [h1]; omega)
      have b0 : decide ((0 : Int) < (k : Int)) = true := decide_eq_true (by omega)
      have b1 : ((k : Int) == (s.size : Int)) = true := by rw [beq_iff_eq]; omega
      clear h1 hk
      go_enter Tryz.func12, Tryz.ntmps12
      go_wp2_with fail
      refine HC.out.mono ?_
      rintro r w1 ⟨rfl, rfl⟩
      go_wp2_with fail
      go_ret
      exact ⟨ret_bool G.out.symm, rfl⟩
    · have hlt : k < s.size := by omega
      have bd := s[k].toNat_lt
      have b0 : decide ((0 : Int) < (k : Int)) = true := decide_eq_true (by omega)
      have b1 : ((k : Int) == (s.size : Int)) = false := by rw [beq_eq_false_iff_ne]; omega
      by_cases h47 : s[k] = 47
      · have b2 : ((s[k].toNat : Int) == 47) = true := by rw [h47]; rfl
        have G : Hid (isTok (s.extract (k + 1) s.size) = isType s) := by
          refine Lib.hid ?_
          unfold isType
          subst hk
          simp [h0, h1, hlt, h47]
        clear h1 hk h47
        go_enter Tryz.func12, Tryz.ntmps12
        go_wp2_with fail
        refine HC.out.mono ?_
        rintro r w1 ⟨rfl, rfl⟩
        go_wp2_with fail
        refine (isToken_any (s.extract (k + 1) s.size) w (by rw [ByteArray.size_extract]; omega)).mono ?_
        rintro r w1 ⟨rfl, rfl⟩
        go_wp2_with fail
        go_ret
        exact ⟨ret_bool G.out, rfl⟩
      · have b2 : ((s[k].toNat : Int) == 47) = false := by
          rw [beq_eq_false_iff_ne]; intro e; exact h47 (UInt8.toNat_inj.1 (by simpa using Int.ofNat.inj e))
        have G : Hid (isType s = false) := by
          refine Lib.hid ?_
          unfold isType
          subst hk
          simp [h1, h47]
        clear h1 hk h47
        go_enter Tryz.func12, Tryz.ntmps12
        go_wp2_with fail
        refine HC.out.mono ?_
        rintro r w1 ⟨rfl, rfl⟩
        go_wp2_with fail
        go_ret
        exact ⟨ret_bool G.out.symm, rfl⟩
  · have G : Hid (isType s = false) := Lib.hid (by unfold isType; rw [← hk]; simp [h0])
    have b0 : decide ((0 : Int) < (k : Int)) = false := decide_eq_false (by omega)
    clear hk
    go_enter Tryz.func12, Tryz.ntmps12
    go_wp2_with fail
    refine HC.out.mono ?_
    rintro r w1 ⟨rfl, rfl⟩
    go_wp2_with fail
    go_ret
    exact ⟨ret_bool G.out.symm, rfl⟩

end Go.Proofs.YtbklpdcipfhdjaaGreatDoor.E
