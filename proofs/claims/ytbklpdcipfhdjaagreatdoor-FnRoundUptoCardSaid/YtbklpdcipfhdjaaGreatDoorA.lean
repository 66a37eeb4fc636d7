/- Walks of small functions that read strings and bytes: zzIndex, Printable, within, Special, TokenByte and the like, for strings of at most 2^40 bytes. -/
import Derived.Test.YtbklpdcipfhdjaaGreatDoorChecked
import Derived.WalkKit
import Derived.RowKit3
import Derived.KernelRfl
import Derived.WalkLawsBesides
import Derived.WalkSpells
import Derived.Deep.LoopGhost
import Derived.Deep.QuietTactic
import Derived.BigQuiet
import Derived.Lib.Hide
import Derived.Lib.Strings
import Derived.Lib.IndexBytes
import Derived.Outline
namespace Go.Proofs.YtbklpdcipfhdjaaGreatDoor.A
open Go.RowKit

theorem ret_bool {a b : Bool} (h : a = b) : Ending.returned (.bool a) = .returned (.bool b) := by rw [h]

/-- The cut of a string, as a list. -/
theorem ext_list (s : ByteArray) (a b : Nat) : (s.extract a b).toList = (s.data.toList.drop a).take (b - a) := by
  rw [Lib.toList_data, Lib.extract_data]

set_option maxHeartbeats 400000 in
theorem zzIndex_at (s sub : ByteArray) (w : World) (hs : s.size ≤ 1099511627776) (hsub : sub.size ≤ 1099511627776) (n : Nat) (hn : n + sub.size ≤ s.size)
    (heq : (s.data.toList.drop n).take sub.size = sub.data.toList) (hbef : ∀ i, i < n → (s.data.toList.drop i).take sub.size ≠ sub.data.toList) :
    Calls Tryz.prog 71 #[.string s, .string sub] w fun e w' => e = .returned (.int .i64 n) ∧ w = w' := by
  have Heq := Lib.hid heq
  have Hbef := Lib.hid hbef
  clear heq hbef
  go_enter Tryz.func71, Tryz.ntmps71
  go_wp2
  go_loop [5] (fun i => ∃ k : Nat, k ≤ n ∧ i = .int .i64 k) (fun i => s.size + 1 - (intOf i).toNat)
  case atStart => exact ⟨0, Nat.zero_le _, rfl⟩
  case round =>
    obtain ⟨k, hk, rfl⟩ := hrel
    by_cases hlt : k < n
    · have h1 : ((s.extract k (k + sub.size)).toList == sub.toList) = false := by
        rw [ext_list, Lib.toList_data, beq_eq_false_iff_ne, Nat.add_sub_cancel_left]
        exact Hbef.out k hlt
      go_wp2
      go_round
      case rel => exact ⟨k + 1, by omega, by go_num⟩
      case measure => simp [intOf]; omega
    · obtain rfl : k = n := by omega
      have h1 : ((s.extract k (k + sub.size)).toList == sub.toList) = true := by
        rw [ext_list, Lib.toList_data, beq_iff_eq, Nat.add_sub_cancel_left]
        exact Heq.out
      go_wp2
      go_ret
      exact ⟨rfl, rfl⟩

set_option maxHeartbeats 400000 in
theorem zzIndex_none (s sub : ByteArray) (w : World) (hs : s.size ≤ 1099511627776) (hsub : sub.size ≤ 1099511627776)
    (hbef : ∀ i, i + sub.size ≤ s.size → (s.data.toList.drop i).take sub.size ≠ sub.data.toList) :
    Calls Tryz.prog 71 #[.string s, .string sub] w fun e w' => e = .returned (.int .i64 (-1)) ∧ w = w' := by
  have Hbef := Lib.hid hbef
  clear hbef
  go_enter Tryz.func71, Tryz.ntmps71
  go_wp2
  go_loop [5] (fun i => ∃ k : Nat, k ≤ s.size + 1 ∧ i = .int .i64 k) (fun i => s.size + 1 - (intOf i).toNat)
  case atStart => exact ⟨0, Nat.zero_le _, rfl⟩
  case round =>
    obtain ⟨k, hk, rfl⟩ := hrel
    by_cases hlt : k + sub.size ≤ s.size
    · have h1 : ((s.extract k (k + sub.size)).toList == sub.toList) = false := by
        rw [ext_list, Lib.toList_data, beq_eq_false_iff_ne, Nat.add_sub_cancel_left]
        exact Hbef.out k hlt
      go_wp2
      go_round
      case rel => exact ⟨k + 1, by omega, by go_num⟩
      case measure => simp [intOf]; omega
    · go_wp2
      go_ret
      exact ⟨rfl, rfl⟩

/-- A byte of a printable text. -/
def okb (c : UInt8) : Bool := (decide (32 ≤ c.toNat) && decide (c.toNat ≤ 126)) || decide (c.toNat = 9)

/-- A text of printable bytes alone. -/
def printB (s : ByteArray) : Bool := s.data.toList.all okb

theorem getb (s : ByteArray) (k : Nat) (h : k < s.size) : s.data.toList[k]'(by simpa using h) = s[k] := rfl

set_option maxHeartbeats 400000 in
theorem printable_any (s : ByteArray) (w : World) (hs : s.size ≤ 1099511627776) :
    Calls Tryz.prog 34 #[.string s] w fun e w' => e = .returned (.bool (printB s)) ∧ w = w' := by
  go_enter Tryz.func34, Tryz.ntmps34
  go_wp2
  go_loop [3] (fun i => ∃ k : Nat, k ≤ s.size ∧ i = .int .i64 k ∧ Hid (∀ x ∈ s.data.toList.take k, okb x = true)) (fun i => s.size - (intOf i).toNat)
  case atStart => exact ⟨0, Nat.zero_le _, rfl, Lib.hid (by simp)⟩
  case round =>
    obtain ⟨k, hk, rfl, H⟩ := hrel
    by_cases hlt : k < s.size
    · have bd := s[k].toNat_lt
      have Hsn : Hid (s.data.toList.take (k + 1) = s.data.toList.take k ++ [s[k]]) := by
        apply Lib.hid; rw [List.take_succ_eq_append_getElem (by simpa using hlt)]; rfl
      have Hin : Hid (s[k] ∈ s.data.toList) := Lib.hid (List.mem_of_getElem (getb s k hlt))
      have good : okb s[k] = true → ∀ x ∈ s.data.toList.take (k + 1), okb x = true := by
        intro g x hx; rw [Hsn.out] at hx; rcases List.mem_append.1 hx with h | h
        · exact H.out x h
        · simp at h; rw [h]; exact g
      have bad : okb s[k] = false → printB s = false := by
        intro g; unfold printB; rw [List.all_eq_false]; exact ⟨_, Hin.out, by simp [g]⟩
      have Good := Lib.hid good
      have Bad := Lib.hid bad
      clear good bad
      by_cases h1 : (s[k].toNat : Int) < 32
      · have b1 : decide ((s[k].toNat : Int) < 32) = true := decide_eq_true h1
        by_cases h9 : (s[k].toNat : Int) = 9
        · have b9 : ((s[k].toNat : Int) != 9) = false := by simp [h9]
          have G := Lib.hid (Good.out (by unfold okb; simp; omega))
          clear h9
          go_wp2
          go_round
          case rel => exact ⟨k + 1, by omega, by go_num, G⟩
          case measure => simp [intOf]; omega
        · have b9 : ((s[k].toNat : Int) != 9) = true := bne_iff_ne.mpr h9
          have G := Lib.hid (Bad.out (by unfold okb; simp; omega))
          clear h9
          go_wp2
          go_ret
          exact ⟨ret_bool G.out.symm, rfl⟩
      · have b1 : decide ((s[k].toNat : Int) < 32) = false := decide_eq_false h1
        by_cases h2 : (126 : Int) < s[k].toNat
        · have b2 : decide ((126 : Int) < s[k].toNat) = true := decide_eq_true h2
          have b9 : ((s[k].toNat : Int) != 9) = true := bne_iff_ne.mpr (by omega)
          have G := Lib.hid (Bad.out (by unfold okb; simp; omega))
          go_wp2
          go_ret
          exact ⟨ret_bool G.out.symm, rfl⟩
        · have b2 : decide ((126 : Int) < s[k].toNat) = false := decide_eq_false h2
          have G := Lib.hid (Good.out (by unfold okb; simp; omega))
          go_wp2
          go_round
          case rel => exact ⟨k + 1, by omega, by go_num, G⟩
          case measure => simp [intOf]; omega
    · have G : printB s = true := by
        unfold printB; rw [List.all_eq_true]; intro x hx; exact H.out x (by rwa [List.take_of_length_le (by simp; omega)])
      have HG := Lib.hid G
      clear G
      go_wp2
      go_ret
      exact ⟨ret_bool HG.out.symm, rfl⟩

def spcl (b : Nat) : Bool := [40, 41, 60, 62, 64, 44, 59, 58, 92, 34, 47, 91, 93, 63, 61].contains b
/-- A byte of a token. -/
def tokB (b : Nat) : Bool := decide (32 < b) && decide (b < 127) && !spcl b

set_option maxRecDepth 100000 in
theorem tokBits : ∀ b, b < 256 → (bits .or .u64 (bits .and .u64 (IntKind.u64.wrap (2 ^ min b 64)) 288068722172624896) (bits .and .u64 (IntKind.u64.wrap (2 ^ min ((b + 192) % 256) 64)) 9223372035915251710) != 0) = tokB b := by decide +kernel
set_option maxRecDepth 100000 in
theorem spcBits : ∀ b, b < 256 → (bits .or .u64 (bits .and .u64 (IntKind.u64.wrap (2 ^ min b 64)) 18158675342946992128) (bits .and .u64 (IntKind.u64.wrap (2 ^ min ((b + 192) % 256) 64)) 939524097) != 0) = spcl b := by decide +kernel

set_option maxHeartbeats 400000 in
theorem tokenChar_any (b : Nat) (hb : b < 256) (w : World) :
    Calls Tryz.prog 98 #[.int .u8 b] w fun e w' => e = .returned (.bool (tokB b)) ∧ w = w' := by
  have HT := Lib.hid (tokBits b hb)
  obtain ⟨m, hm⟩ : ∃ m, m = (b + 192) % 256 := ⟨_, rfl⟩
  rw [← hm] at HT
  have hmc : ((b : Int) - 64) % 256 = (m : Int) := by omega
  have hm2 : m < 256 := by omega
  clear hm
  go_enter Tryz.func98, Tryz.ntmps98
  go_wp2
  go_ret
  exact ⟨ret_bool HT.out, rfl⟩

set_option maxHeartbeats 400000 in
theorem special_any (b : Nat) (hb : b < 256) (w : World) :
    Calls Tryz.prog 70 #[.int .u8 b] w fun e w' => e = .returned (.bool (spcl b)) ∧ w = w' := by
  have HT := Lib.hid (spcBits b hb)
  obtain ⟨m, hm⟩ : ∃ m, m = (b + 192) % 256 := ⟨_, rfl⟩
  rw [← hm] at HT
  have hmc : ((b : Int) - 64) % 256 = (m : Int) := by omega
  have hm2 : m < 256 := by omega
  clear hm
  go_enter Tryz.func70, Tryz.ntmps70
  go_wp2
  go_ret
  exact ⟨ret_bool HT.out, rfl⟩

/-- A byte stands in a text. -/
def has (s : ByteArray) (b : Nat) : Bool := s.data.toList.any fun x => x.toNat == b

set_option maxHeartbeats 400000 in
theorem within_any (s : ByteArray) (b : Nat) (w : World) (hs : s.size ≤ 1099511627776) :
    Calls Tryz.prog 39 #[.string s, .int .u8 b] w fun e w' => e = .returned (.bool (has s b)) ∧ w = w' := by
  go_enter Tryz.func39, Tryz.ntmps39
  go_wp2
  go_loop [5] (fun i => ∃ k : Nat, k ≤ s.size ∧ i = .int .i64 k ∧ Hid (∀ x ∈ s.data.toList.take k, (x.toNat == b) = false)) (fun i => s.size - (intOf i).toNat)
  case atStart => exact ⟨0, Nat.zero_le _, rfl, Lib.hid (by simp)⟩
  case round =>
    obtain ⟨k, hk, rfl, H⟩ := hrel
    by_cases hlt : k < s.size
    · have bd := s[k].toNat_lt
      have Hsn : Hid (s.data.toList.take (k + 1) = s.data.toList.take k ++ [s[k]]) := by
        apply Lib.hid; rw [List.take_succ_eq_append_getElem (by simpa using hlt)]; rfl
      have Hin : Hid (s[k] ∈ s.data.toList) := Lib.hid (List.mem_of_getElem (getb s k hlt))
      by_cases h1 : s[k].toNat = b
      · have b1 : ((s[k].toNat : Int) == (b : Int)) = true := by rw [h1]; simp
        have G : Hid (has s b = true) := Lib.hid (by unfold has; rw [List.any_eq_true]; exact ⟨_, Hin.out, by simp [h1]⟩)
        clear h1
        go_wp2
        go_ret
        exact ⟨ret_bool G.out.symm, rfl⟩
      · have b1 : ((s[k].toNat : Int) == (b : Int)) = false := by rw [beq_eq_false_iff_ne]; omega
        have G : Hid (∀ x ∈ s.data.toList.take (k + 1), (x.toNat == b) = false) := by
          refine Lib.hid fun x hx => ?_
          rw [Hsn.out] at hx
          rcases List.mem_append.1 hx with h | h
          · exact H.out x h
          · simp at h; rw [h]; simpa using h1
        clear h1
        go_wp2
        go_round
        case rel => exact ⟨k + 1, by omega, by go_num, G⟩
        case measure => simp [intOf]; omega
    · have G : Hid (has s b = false) := by
        refine Lib.hid ?_
        unfold has; rw [List.any_eq_false]
        intro x hx
        have := H.out x (by rwa [List.take_of_length_le (by simp; omega)])
        simp [this]
      go_wp2
      go_ret
      exact ⟨ret_bool G.out.symm, rfl⟩

end Go.Proofs.YtbklpdcipfhdjaaGreatDoor.A
