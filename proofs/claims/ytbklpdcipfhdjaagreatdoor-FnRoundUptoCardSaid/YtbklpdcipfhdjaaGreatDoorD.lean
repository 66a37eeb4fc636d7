/- Walks of consumeToken, zzCut, IsToken and Type, for strings of at most 2^40 bytes. -/
import Derived.Test.YtbklpdcipfhdjaaGreatDoorC
namespace Go.Proofs.YtbklpdcipfhdjaaGreatDoor.D
open Go.RowKit Go.Proofs.YtbklpdcipfhdjaaGreatDoor.A Go.Proofs.YtbklpdcipfhdjaaGreatDoor.C

theorem ext_cut (s : ByteArray) (a b : Nat) : (s.extract a b).data.toList = (s.data.toList.drop a).take (b - a) := by
  have := ext_list s a b
  rwa [Lib.toList_data] at this
theorem ext_all (s : ByteArray) (a : Nat) : (s.extract a s.size).data.toList = s.data.toList.drop a := by
  rw [ext_cut, List.take_of_length_le (by rw [List.length_drop]; simp)]

/-- What cutting at k answers. -/
def Cut (s : ByteArray) (k : Nat) (w : World) (e : Ending) (w' : World) : Prop :=
  ∃ a r : ByteArray, e = .returned (.tuple #[.string a, .string r]) ∧ a.data.toList = s.data.toList.take k ∧ r.data.toList = s.data.toList.drop k ∧ ∃ n, w' = w.drewN n

set_option maxHeartbeats 1000000 in
set_option maxRecDepth 100000 in
theorem consumeToken_any (s : ByteArray) (w : World) (hs : s.size ≤ 1099511627776) :
    Calls Tryz.prog 77 #[.string s] w (Cut s (tokS s) w) := by
  go_enter Tryz.func77, Tryz.ntmps77
  go_wp2
  go_loop [7] (fun i => ∃ k : Nat, k ≤ s.size ∧ i = .int .i64 k ∧ Hid (∀ x ∈ s.data.toList.take k, tokB x.toNat = true)) (fun i => s.size - (intOf i).toNat)
  case atStart => exact ⟨0, Nat.zero_le _, rfl, Lib.hid (by simp)⟩
  case round =>
    obtain ⟨k, hk, rfl, H⟩ := hrel
    by_cases hlt : k < s.size
    · have bd := s[k].toNat_lt
      have Hsn : Hid (s.data.toList.take (k + 1) = s.data.toList.take k ++ [s[k]]) := by
        apply Lib.hid; rw [List.take_succ_eq_append_getElem (by simpa using hlt)]; rfl
      go_wp2_with fail
      cases ht : tokB s[k].toNat with
      | true =>
        have hc := tokenChar_any s[k].toNat bd w
        rw [ht] at hc
        have G : Hid (∀ x ∈ s.data.toList.take (k + 1), tokB x.toNat = true) := by
          refine Lib.hid fun x hx => ?_
          rw [Hsn.out] at hx
          rcases List.mem_append.1 hx with h | h
          · exact H.out x h
          · simp at h; rw [h]; exact ht
        clear ht
        refine hc.mono ?_
        clear hc
        rintro r w1 ⟨rfl, rfl⟩
        go_wp2_with fail
        go_round
        case rel => exact ⟨k + 1, by omega, by go_num, G⟩
        case measure => simp [intOf]; omega
      | false =>
        have hc := tokenChar_any s[k].toNat bd w
        rw [ht] at hc
        have G : Hid (Cut s (tokS s) w (.returned (.tuple #[.string (s.extract 0 k), .string (s.extract k s.size)])) w) := by
          have e : tokS s = k := tl_stop _ k (by simpa using hlt) H.out ht
          rw [e]
          exact Lib.hid ⟨_, _, rfl, by rw [ext_cut]; simp, ext_all s k, 0, rfl⟩
        clear ht
        refine hc.mono ?_
        clear hc
        rintro r w1 ⟨rfl, rfl⟩
        have j1 : (0 : Int) ≤ (k : Int) := by omega
        have j2 : (k : Int) ≤ (s.size : Int) := by omega
        go_wp2_with fail
        go_quiet (fail)
        go_wp2_with fail
        go_ret2
        obtain ⟨a, r, e1, e2, e3, _⟩ := G.out
        exact ⟨a, r, e1, e2, e3, _, rfl⟩
    · have G : Hid (Cut s (tokS s) w (.returned (.tuple #[.string s, .string ⟨#[]⟩])) w) := by
        have e : tokS s = s.size := by
          have := tl_all s.data.toList (fun x hx => H.out x (by rwa [List.take_of_length_le (by simp; omega)]))
          unfold tokS; rw [this]; simp
        rw [e]
        exact Lib.hid ⟨_, _, rfl, by rw [List.take_of_length_le (by simp)], by rw [List.drop_eq_nil_of_le (by simp)], 0, rfl⟩
      go_wp2_with fail
      go_ret2
      exact G.out

set_option maxHeartbeats 1000000 in
set_option maxRecDepth 100000 in
theorem zzCut_at (s sub : ByteArray) (w : World) (hs : s.size ≤ 1099511627776) (hsub : sub.size ≤ 1099511627776) (n : Nat) (hn : n + sub.size ≤ s.size)
    (heq : (s.data.toList.drop n).take sub.size = sub.data.toList) (hbef : ∀ i, i < n → (s.data.toList.drop i).take sub.size ≠ sub.data.toList) :
    Calls Tryz.prog 47 #[.string s, .string sub] w fun e w' => ∃ a r : ByteArray, e = .returned (.tuple #[.string a, .string r, .bool true]) ∧ a.data.toList = s.data.toList.take n ∧ r.data.toList = s.data.toList.drop (n + sub.size) ∧ ∃ q, w' = w.drewN q := by
  have Heq := Lib.hid heq
  have Hbef := Lib.hid hbef
  clear heq hbef
  have G : Hid ((s.extract 0 n).data.toList = s.data.toList.take n ∧ (s.extract (n + sub.size) s.size).data.toList = s.data.toList.drop (n + sub.size)) := Lib.hid ⟨by rw [ext_cut]; simp, ext_all s _⟩
  go_enter Tryz.func47, Tryz.ntmps47
  go_wp2_with fail
  refine (zzIndex_at s sub w hs hsub n hn Heq.out Hbef.out).mono ?_
  rintro r w1 ⟨rfl, rfl⟩
  have j1 : (0 : Int) ≤ (n : Int) := by omega
  have j2 : (n : Int) ≤ (s.size : Int) := by omega
  have j3 : (0 : Int) ≤ (n : Int) + (sub.size : Int) := by omega
  have j4 : (n : Int) + (sub.size : Int) ≤ (s.size : Int) := by omega
  have e1 : IntKind.i64.wrap ((n : Int) + (sub.size : Int)) = (n : Int) + (sub.size : Int) := by rw [IntKind.wrap_i64]; omega
  go_wp2_with fail
  go_quiet (fail)
  go_wp2_with fail
  go_ret3
  exact ⟨_, _, rfl, G.out.1, G.out.2, _, rfl⟩

set_option maxHeartbeats 1000000 in
set_option maxRecDepth 100000 in
theorem zzCut_none (s sub : ByteArray) (w : World) (hs : s.size ≤ 1099511627776) (hsub : sub.size ≤ 1099511627776)
    (hbef : ∀ i, i + sub.size ≤ s.size → (s.data.toList.drop i).take sub.size ≠ sub.data.toList) :
    Calls Tryz.prog 47 #[.string s, .string sub] w fun e w' => e = .returned (.tuple #[.string s, .string ⟨#[]⟩, .bool false]) ∧ w = w' := by
  have Hbef := Lib.hid hbef
  clear hbef
  go_enter Tryz.func47, Tryz.ntmps47
  go_wp2_with fail
  refine (zzIndex_none s sub w hs hsub Hbef.out).mono ?_
  rintro r w1 ⟨rfl, rfl⟩
  go_wp2_with fail
  go_ret3
  exact ⟨rfl, rfl⟩

end Go.Proofs.YtbklpdcipfhdjaaGreatDoor.D
