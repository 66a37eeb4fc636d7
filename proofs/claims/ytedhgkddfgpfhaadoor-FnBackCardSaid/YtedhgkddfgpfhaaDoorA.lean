/- Walks of small functions that read strings: zzIndex, Printable and Starts, for strings of at most 2^40 bytes. -/
import Derived.Test.YtedhgkddfgpfhaaDoorChecked
import Derived.WalkKit
import Derived.RowKit3
import Derived.KernelRfl
import Derived.WalkLawsBesides
import Derived.WalkSpells
import Derived.Deep.LoopGhost
import Derived.Deep.QuietTactic
import Derived.BigQuiet
import Derived.Lib.Hide
import Derived.Lib.Strings
import Derived.Lib.IndexBytes
import Derived.Outline
namespace Go.Proofs.YtedhgkddfgpfhaaDoor.A
open Go.RowKit

theorem ret_bool {a b : Bool} (h : a = b) : Ending.returned (.bool a) = .returned (.bool b) := by rw [h]

/-- The cut of a string, as a list. -/
theorem ext_list (s : ByteArray) (a b : Nat) : (s.extract a b).toList = (s.data.toList.drop a).take (b - a) := by
  rw [Lib.toList_data, Lib.extract_data]

set_option maxHeartbeats 400000 in
theorem zzIndex_at (s sub : ByteArray) (w : World) (hs : s.size ≤ 1099511627776) (hsub : sub.size ≤ 1099511627776) (n : Nat) (hn : n + sub.size ≤ s.size)
    (heq : (s.data.toList.drop n).take sub.size = sub.data.toList) (hbef : ∀ i, i < n → (s.data.toList.drop i).take sub.size ≠ sub.data.toList) :
    Calls Tryd.prog 14 #[.string s, .string sub] w fun e w' => e = .returned (.int .i64 n) ∧ w = w' := by
  have Heq := Lib.hid heq
  have Hbef := Lib.hid hbef
  clear heq hbef
  go_enter Tryd.func14, Tryd.ntmps14
  go_wp2
  go_loop [5] (fun i => ∃ k : Nat, k ≤ n ∧ i = .int .i64 k) (fun i => s.size + 1 - (intOf i).toNat)
  case atStart => exact ⟨0, Nat.zero_le _, rfl⟩
  case round =>
    obtain ⟨k, hk, rfl⟩ := hrel
    by_cases hlt : k < n
    · have h1 : ((s.extract k (k + sub.size)).toList == sub.toList) = false := by
        rw [ext_list, Lib.toList_data, beq_eq_false_iff_ne, Nat.add_sub_cancel_left]
        exact Hbef.out k hlt
      go_wp2
      go_round
      case rel => exact ⟨k + 1, by omega, by go_num⟩
      case measure => simp [intOf]; omega
    · obtain rfl : k = n := by omega
      have h1 : ((s.extract k (k + sub.size)).toList == sub.toList) = true := by
        rw [ext_list, Lib.toList_data, beq_iff_eq, Nat.add_sub_cancel_left]
        exact Heq.out
      go_wp2
      go_ret
      exact ⟨rfl, rfl⟩

set_option maxHeartbeats 400000 in
theorem zzIndex_none (s sub : ByteArray) (w : World) (hs : s.size ≤ 1099511627776) (hsub : sub.size ≤ 1099511627776)
    (hbef : ∀ i, i + sub.size ≤ s.size → (s.data.toList.drop i).take sub.size ≠ sub.data.toList) :
    Calls Tryd.prog 14 #[.string s, .string sub] w fun e w' => e = .returned (.int .i64 (-1)) ∧ w = w' := by
  have Hbef := Lib.hid hbef
  clear hbef
  go_enter Tryd.func14, Tryd.ntmps14
  go_wp2
  go_loop [5] (fun i => ∃ k : Nat, k ≤ s.size + 1 ∧ i = .int .i64 k) (fun i => s.size + 1 - (intOf i).toNat)
  case atStart => exact ⟨0, Nat.zero_le _, rfl⟩
  case round =>
    obtain ⟨k, hk, rfl⟩ := hrel
    by_cases hlt : k + sub.size ≤ s.size
    · have h1 : ((s.extract k (k + sub.size)).toList == sub.toList) = false := by
        rw [ext_list, Lib.toList_data, beq_eq_false_iff_ne, Nat.add_sub_cancel_left]
        exact Hbef.out k hlt
      go_wp2
      go_round
      case rel => exact ⟨k + 1, by omega, by go_num⟩
      case measure => simp [intOf]; omega
    · go_wp2
      go_ret
      exact ⟨rfl, rfl⟩

/-- A byte of a printable text. -/
def okb (c : UInt8) : Bool := (decide (32 ≤ c.toNat) && decide (c.toNat ≤ 126)) || decide (c.toNat = 9)

/-- A text of printable bytes alone. -/
def printB (s : ByteArray) : Bool := s.data.toList.all okb

theorem getb (s : ByteArray) (k : Nat) (h : k < s.size) : s.data.toList[k]'(by simpa using h) = s[k] := rfl

set_option maxHeartbeats 400000 in
theorem printable_any (s : ByteArray) (w : World) (hs : s.size ≤ 1099511627776) :
    Calls Tryd.prog 5 #[.string s] w fun e w' => e = .returned (.bool (printB s)) ∧ w = w' := by
  go_enter Tryd.func5, Tryd.ntmps5
  go_wp2
  go_loop [3] (fun i => ∃ k : Nat, k ≤ s.size ∧ i = .int .i64 k ∧ Hid (∀ x ∈ s.data.toList.take k, okb x = true)) (fun i => s.size - (intOf i).toNat)
  case atStart => exact ⟨0, Nat.zero_le _, rfl, Lib.hid (by simp)⟩
  case round =>
    obtain ⟨k, hk, rfl, H⟩ := hrel
    by_cases hlt : k < s.size
    · have bd := s[k].toNat_lt
      have Hsn : Hid (s.data.toList.take (k + 1) = s.data.toList.take k ++ [s[k]]) := by
        apply Lib.hid; rw [List.take_succ_eq_append_getElem (by simpa using hlt)]; rfl
      have Hin : Hid (s[k] ∈ s.data.toList) := Lib.hid (List.mem_of_getElem (getb s k hlt))
      have good : okb s[k] = true → ∀ x ∈ s.data.toList.take (k + 1), okb x = true := by
        intro g x hx; rw [Hsn.out] at hx; rcases List.mem_append.1 hx with h | h
        · exact H.out x h
        · simp at h; rw [h]; exact g
      have bad : okb s[k] = false → printB s = false := by
        intro g; unfold printB; rw [List.all_eq_false]; exact ⟨_, Hin.out, by simp [g]⟩
      have Good := Lib.hid good
      have Bad := Lib.hid bad
      clear good bad
      by_cases h1 : (s[k].toNat : Int) < 32
      · have b1 : decide ((s[k].toNat : Int) < 32) = true := decide_eq_true h1
        by_cases h9 : (s[k].toNat : Int) = 9
        · have b9 : ((s[k].toNat : Int) != 9) = false := by simp [h9]
          have G := Lib.hid (Good.out (by unfold okb; simp; omega))
          clear h9
          go_wp2
          go_round
          case rel => exact ⟨k + 1, by omega, by go_num, G⟩
          case measure => simp [intOf]; omega
        · have b9 : ((s[k].toNat : Int) != 9) = true := bne_iff_ne.mpr h9
          have G := Lib.hid (Bad.out (by unfold okb; simp; omega))
          clear h9
          go_wp2
          go_ret
          exact ⟨ret_bool G.out.symm, rfl⟩
      · have b1 : decide ((s[k].toNat : Int) < 32) = false := decide_eq_false h1
        by_cases h2 : (126 : Int) < s[k].toNat
        · have b2 : decide ((126 : Int) < s[k].toNat) = true := decide_eq_true h2
          have b9 : ((s[k].toNat : Int) != 9) = true := bne_iff_ne.mpr (by omega)
          have G := Lib.hid (Bad.out (by unfold okb; simp; omega))
          go_wp2
          go_ret
          exact ⟨ret_bool G.out.symm, rfl⟩
        · have b2 : decide ((126 : Int) < s[k].toNat) = false := decide_eq_false h2
          have G := Lib.hid (Good.out (by unfold okb; simp; omega))
          go_wp2
          go_round
          case rel => exact ⟨k + 1, by omega, by go_num, G⟩
          case measure => simp [intOf]; omega
    · have G : printB s = true := by
        unfold printB; rw [List.all_eq_true]; intro x hx; exact H.out x (by rwa [List.take_of_length_le (by simp; omega)])
      have HG := Lib.hid G
      clear G
      go_wp2
      go_ret
      exact ⟨ret_bool HG.out.symm, rfl⟩

/-- A text has '=?' in it. -/
def starts : List UInt8 → Bool
  | 61 :: 63 :: _ => true
  | _ :: r => starts r
  | [] => false

theorem starts_drop (l : List UInt8) (k : Nat) (h : k + 1 < l.length) : starts (l.drop k) = ((l[k] == 61 && l[k + 1] == 63) || starts (l.drop (k + 1))) := by
  rw [List.drop_eq_getElem_cons (by omega), List.drop_eq_getElem_cons h]
  generalize l[k] = a; generalize l[k + 1] = b; generalize l.drop (k + 1 + 1) = r
  by_cases ha : a = 61
  · subst ha
    by_cases hb : b = 63
    · subst hb; simp [starts]
    · have : (b == 63) = false := by simpa using hb
      rw [this]; simp only [Bool.and_false, Bool.false_or]
      rw [starts]; intro r' _ e; injection e with e1 _; exact hb e1
  · have : (a == 61) = false := by simpa using ha
    rw [this]; simp only [Bool.false_and, Bool.false_or]
    rw [starts]; intro r' e _; exact ha e

def startsB (s : ByteArray) : Bool := starts s.data.toList
def startsFrom (s : ByteArray) (k : Nat) : Bool := starts (s.data.toList.drop k)
theorem startsFrom_zero (s : ByteArray) : startsFrom s 0 = startsB s := rfl
theorem startsFrom_step (s : ByteArray) (k : Nat) (h : k + 1 < s.size) : startsFrom s k = ((s[k] == 61 && s[k + 1] == 63) || startsFrom s (k + 1)) :=
  starts_drop s.data.toList k (by simpa using h)
theorem startsFrom_end (s : ByteArray) (k : Nat) (h : ¬ k + 1 < s.size) : startsFrom s k = false := by
  unfold startsFrom
  have hl : (s.data.toList.drop k).length ≤ 1 := by rw [List.length_drop]; have : s.data.toList.length = s.size := by simp
                                                    omega
  match s.data.toList.drop k, hl with
  | [], _ => rfl
  | [a], _ => simp [starts]

set_option maxHeartbeats 400000 in
theorem starts_any (s : ByteArray) (w : World) (hs : s.size ≤ 1099511627776) :
    Calls Tryd.prog 6 #[.string s] w fun e w' => e = .returned (.bool (startsB s)) ∧ w = w' := by
  go_enter Tryd.func6, Tryd.ntmps6
  go_wp2
  go_loop [3] (fun i => ∃ k : Nat, k ≤ s.size ∧ i = .int .i64 k ∧ Hid (startsFrom s k = startsB s)) (fun i => s.size - (intOf i).toNat)
  case atStart => exact ⟨0, Nat.zero_le _, rfl, Lib.hid rfl⟩
  case round =>
    obtain ⟨k, hk, rfl, H⟩ := hrel
    by_cases hlt : k + 1 < s.size
    · have Hst := Lib.hid (startsFrom_step s k hlt)
      have bd := s[k].toNat_lt
      have bd2 := s[k + 1].toNat_lt
      by_cases h1 : s[k] = 61
      · have b1 : ((s[k].toNat : Int) == 61) = true := by rw [h1]; rfl
        have H1 := Lib.hid h1
        clear h1
        by_cases h2 : s[k + 1] = 63
        · have b2 : ((s[k + 1].toNat : Int) == 63) = true := by rw [h2]; rfl
          have G := Lib.hid (show startsB s = true by rw [← H.out, Hst.out, H1.out, h2]; rfl)
          clear h2
          go_wp2
          go_ret
          exact ⟨ret_bool G.out.symm, rfl⟩
        · have b2 : ((s[k + 1].toNat : Int) == 63) = false := by
            rw [beq_eq_false_iff_ne]; intro e; exact h2 (UInt8.toNat_inj.1 (by simpa using Int.ofNat.inj e))
          have G := Lib.hid (show startsFrom s (k + 1) = startsB s by rw [← H.out, Hst.out]; simp [h2])
          clear h2
          go_wp2
          go_round
          case rel => exact ⟨k + 1, by omega, by go_num, G⟩
          case measure => simp [intOf]; omega
      · have b1 : ((s[k].toNat : Int) == 61) = false := by
          rw [beq_eq_false_iff_ne]; intro e; exact h1 (UInt8.toNat_inj.1 (by simpa using Int.ofNat.inj e))
        have G := Lib.hid (show startsFrom s (k + 1) = startsB s by rw [← H.out, Hst.out]; simp [h1])
        clear h1
        go_wp2
        go_round
        case rel => exact ⟨k + 1, by omega, by go_num, G⟩
        case measure => simp [intOf]; omega
    · have G := Lib.hid (show startsB s = false by rw [← H.out, startsFrom_end s k hlt])
      go_wp2
      go_ret
      exact ⟨ret_bool G.out.symm, rfl⟩

end Go.Proofs.YtedhgkddfgpfhaaDoor.A
