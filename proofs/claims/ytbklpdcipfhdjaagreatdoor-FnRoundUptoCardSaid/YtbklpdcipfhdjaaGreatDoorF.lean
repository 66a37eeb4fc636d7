/- Walks of Blanks and of Lower, for strings of at most 2^40 bytes. -/
import Derived.Test.YtbklpdcipfhdjaaGreatDoorA
import Derived.Lib.FrozenHead
namespace Go.Proofs.YtbklpdcipfhdjaaGreatDoor.F
open Go.RowKit Go.Proofs.YtbklpdcipfhdjaaGreatDoor.A

def blk (c : UInt8) : Bool := c == 32 || c == 9
/-- Spaces and tabs alone, at most twenty. -/
def blanks (s : ByteArray) : Bool := s.data.toList.all blk && decide (s.size ≤ 20)

set_option maxHeartbeats 1000000 in
theorem blanks_any (s : ByteArray) (w : World) (hs : s.size ≤ 1099511627776) :
    Calls Tryz.prog 29 #[.string s] w fun e w' => e = .returned (.bool (blanks s)) ∧ w = w' := by
  go_enter Tryz.func29, Tryz.ntmps29
  go_wp2
  go_loop [3] (fun i => ∃ k : Nat, k ≤ s.size ∧ i = .int .i64 k ∧ Hid (∀ x ∈ s.data.toList.take k, blk x = true)) (fun i => s.size - (intOf i).toNat)
  case atStart => exact ⟨0, Nat.zero_le _, rfl, Lib.hid (by simp)⟩
  case round =>
    obtain ⟨k, hk, rfl, H⟩ := hrel
    by_cases hlt : k < s.size
    · have bd := s[k].toNat_lt
      have Hsn : Hid (s.data.toList.take (k + 1) = s.data.toList.take k ++ [s[k]]) := by
        apply Lib.hid; rw [List.take_succ_eq_append_getElem (by simpa using hlt)]; rfl
      have Hin : Hid (s[k] ∈ s.data.toList) := Lib.hid (List.mem_of_getElem (getb s k hlt))
      have good : blk s[k] = true → ∀ x ∈ s.data.toList.take (k + 1), blk x = true := by
        intro g x hx; rw [Hsn.out] at hx; rcases List.mem_append.1 hx with h | h
        · exact H.out x h
        · simp at h; rw [h]; exact g
      have Good := Lib.hid good
      clear good
      by_cases h1 : s[k] = 32
      · have b1 : ((s[k].toNat : Int) != 32) = false := by rw [h1]; rfl
        have G := Lib.hid (Good.out (by simp [blk, h1]))
        clear h1
        go_wp2
        go_round
        case rel => exact ⟨k + 1, by omega, by go_num, G⟩
        case measure => simp [intOf]; omega
      · have b1 : ((s[k].toNat : Int) != 32) = true := by
          rw [bne_iff_ne]; intro e; exact h1 (UInt8.toNat_inj.1 (by simpa using Int.ofNat.inj e))
        by_cases h2 : s[k] = 9
        · have b2 : ((s[k].toNat : Int) != 9) = false := by rw [h2]; rfl
          have G := Lib.hid (Good.out (by simp [blk, h2]))
          clear h1 h2
          go_wp2
          go_round
          case rel => exact ⟨k + 1, by omega, by go_num, G⟩
          case measure => simp [intOf]; omega
        · have b2 : ((s[k].toNat : Int) != 9) = true := by
            rw [bne_iff_ne]; intro e; exact h2 (UInt8.toNat_inj.1 (by simpa using Int.ofNat.inj e))
          have G : Hid (blanks s = false) := by
            refine Lib.hid ?_
            unfold blanks
            rw [List.all_eq_false.2 ⟨_, Hin.out, by simp [blk, h1, h2]⟩]; rfl
          clear h1 h2
          go_wp2
          go_ret
          exact ⟨ret_bool G.out.symm, rfl⟩
    · have G : Hid (decide ((s.size : Int) ≤ 20) = blanks s) := by
        refine Lib.hid ?_
        unfold blanks
        rw [List.all_eq_true.2 (fun x hx => H.out x (by rwa [List.take_of_length_le (by simp; omega)]))]
        simp only [Bool.true_and]
        exact decide_eq_decide.2 (by omega)
      go_wp2
      go_ret
      exact ⟨ret_bool G.out, rfl⟩

end Go.Proofs.YtbklpdcipfhdjaaGreatDoor.F
