/- Walks of the functions on tokens: Special, TokenByte, tokenEnd, IsToken and consumeToken, for strings of at most 2^40 bytes. -/
import Derived.Test.YtbklpdcipfhdjaaGreatDoorA
namespace Go.Proofs.YtbklpdcipfhdjaaGreatDoor.C
open Go.RowKit Go.Proofs.YtbklpdcipfhdjaaGreatDoor.A

set_option maxRecDepth 100000 in
theorem has_spcl : ∀ b, b < 256 → has ⟨#[40, 41, 60, 62, 64, 44, 59, 58, 92, 34, 47, 91, 93, 63, 61]⟩ b = spcl b := by decide +kernel

set_option maxHeartbeats 400000 in
theorem specSpecial_any (b : Nat) (hb : b < 256) (w : World) :
    Calls Tryz.prog 62 #[.int .u8 b] w fun e w' => e = .returned (.bool (spcl b)) ∧ w = w' := by
  have HT := Lib.hid (has_spcl b hb)
  go_enter Tryz.func62, Tryz.ntmps62
  go_wp2_with fail
  refine (within_any ⟨#[40, 41, 60, 62, 64, 44, 59, 58, 92, 34, 47, 91, 93, 63, 61]⟩ b w (by decide)).mono ?_
  rintro r w1 ⟨rfl, rfl⟩
  go_wp2_with fail
  go_ret
  exact ⟨ret_bool HT.out, rfl⟩

set_option maxHeartbeats 400000 in
set_option maxRecDepth 100000 in
theorem tokenByte_any (b : Nat) (hb : b < 256) (w : World) :
    Calls Tryz.prog 40 #[.int .u8 b] w fun e w' => e = .returned (.bool (tokB b)) ∧ w = w' := by
  by_cases h1 : 32 < b
  · by_cases h2 : b < 127
    · have HT : Hid ((!spcl b) = tokB b) := Lib.hid (by simp [tokB, h1, h2])
      go_enter Tryz.func40, Tryz.ntmps40
      go_wp2_with fail
      refine (specSpecial_any b hb w).mono ?_
      rintro r w1 ⟨rfl, rfl⟩
      go_wp2_with fail
      go_ret
      exact ⟨ret_bool HT.out, rfl⟩
    · have HT : Hid (false = tokB b) := Lib.hid (by simp [tokB, h2])
      go_enter Tryz.func40, Tryz.ntmps40
      go_wp2_with fail
      go_ret
      exact ⟨ret_bool HT.out, rfl⟩
  · have HT : Hid (false = tokB b) := Lib.hid (by simp [tokB, h1])
    go_enter Tryz.func40, Tryz.ntmps40
    go_wp2_with fail
    go_ret
    exact ⟨ret_bool HT.out, rfl⟩

/-- How many bytes of a token a text begins with. -/
def tl (l : List UInt8) : Nat := (l.takeWhile fun x => tokB x.toNat).length
def tokS (s : ByteArray) : Nat := tl s.data.toList

theorem tl_stop (l : List UInt8) (k : Nat) (hk : k < l.length) (h : ∀ x ∈ l.take k, tokB x.toNat = true) (hs : tokB (l[k]).toNat = false) : tl l = k := by
  unfold tl
  conv => lhs; rw [← List.take_append_drop k l, List.drop_eq_getElem_cons hk]
  rw [List.takeWhile_append_of_pos h, List.takeWhile_cons_of_neg (by simp [hs])]
  simp; omega
theorem tl_all (l : List UInt8) (h : ∀ x ∈ l, tokB x.toNat = true) : tl l = l.length := by
  have e : (l ++ []).takeWhile (fun x => tokB x.toNat) = l ++ [].takeWhile (fun x => tokB x.toNat) := List.takeWhile_append_of_pos h
  unfold tl
  simpa using congrArg List.length e

set_option maxHeartbeats 400000 in
theorem tokenEnd_any (s : ByteArray) (w : World) (hs : s.size ≤ 1099511627776) :
    Calls Tryz.prog 32 #[.string s] w fun e w' => e = .returned (.int .i64 (tokS s)) ∧ w = w' := by
  go_enter Tryz.func32, Tryz.ntmps32
  go_wp2
  go_loop [3] (fun i => ∃ k : Nat, k ≤ s.size ∧ i = .int .i64 k ∧ Hid (∀ x ∈ s.data.toList.take k, tokB x.toNat = true)) (fun i => s.size - (intOf i).toNat)
  case atStart => exact ⟨0, Nat.zero_le _, rfl, Lib.hid (by simp)⟩
  case round =>
    obtain ⟨k, hk, rfl, H⟩ := hrel
    by_cases hlt : k < s.size
    · have bd := s[k].toNat_lt
      have Hsn : Hid (s.data.toList.take (k + 1) = s.data.toList.take k ++ [s[k]]) := by
        apply Lib.hid; rw [List.take_succ_eq_append_getElem (by simpa using hlt)]; rfl
      go_wp2_with fail
      cases ht : tokB s[k].toNat with
      | true =>
        have hc := tokenByte_any s[k].toNat bd w
        rw [ht] at hc
        have G : Hid (∀ x ∈ s.data.toList.take (k + 1), tokB x.toNat = true) := by
          refine Lib.hid fun x hx => ?_
          rw [Hsn.out] at hx
          rcases List.mem_append.1 hx with h | h
          · exact H.out x h
          · simp at h; rw [h]; exact ht
        clear ht
        refine hc.mono ?_
        clear hc
        rintro r w1 ⟨rfl, rfl⟩
        go_wp2_with fail
        go_round
        case rel => exact ⟨k + 1, by omega, by go_num, G⟩
        case measure => simp [intOf]; omega
      | false =>
        have hc := tokenByte_any s[k].toNat bd w
        rw [ht] at hc
        have G : Hid (tokS s = k) := Lib.hid (tl_stop _ k (by simpa using hlt) H.out ht)
        clear ht
        refine hc.mono ?_
        clear hc
        rintro r w1 ⟨rfl, rfl⟩
        go_wp2_with fail
        go_ret
        rw [G.out]
        exact ⟨rfl, rfl⟩
    · have G : Hid (tokS s = s.size) := by
        refine Lib.hid ?_
        have := tl_all s.data.toList (fun x hx => H.out x (by rwa [List.take_of_length_le (by simp; omega)]))
        unfold tokS; rw [this]; simp
      go_wp2_with fail
      go_ret
      rw [G.out]
      exact ⟨rfl, rfl⟩

end Go.Proofs.YtbklpdcipfhdjaaGreatDoor.C
