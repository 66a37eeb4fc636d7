/- Walks of CutPrefix at a prefix of one byte. -/
import Derived.Test.YtbklpdcipfhdjaaGreatDoorE
namespace Go.Proofs.YtbklpdcipfhdjaaGreatDoor.I
open Go.RowKit Go.Proofs.YtbklpdcipfhdjaaGreatDoor.A Go.Proofs.YtbklpdcipfhdjaaGreatDoor.C Go.Proofs.YtbklpdcipfhdjaaGreatDoor.D

/-- A text begins with a byte. -/
def begins (s : ByteArray) (c : UInt8) : Bool := (s.extract 0 1).toList == [c]

set_option maxHeartbeats 1000000 in
set_option maxRecDepth 100000 in
theorem hasPrefix_any (s : ByteArray) (c : UInt8) (w : World) (hs : s.size ≤ 1099511627776) (h : 0 < s.size) (v : Bool) (hv : begins s c = v) :
    Calls Tryz.prog 127 #[.string s, .string ⟨#[c]⟩] w fun e w' => e = .returned (.bool v) ∧ w = w' := by
  have hz : (⟨#[c]⟩ : ByteArray).size = 1 := rfl
  have ht : (⟨#[c]⟩ : ByteArray).toList = [c] := by rw [Lib.toList_data]
  have b1 : ((s.extract 0 1).toList == [c]) = v := hv
  go_enter Tryz.func127, Tryz.ntmps127
  go_wp2_with fail
  go_ret
  exact ⟨rfl, rfl⟩

set_option maxHeartbeats 1000000 in
set_option maxRecDepth 100000 in
theorem cut109_yes (s : ByteArray) (c : UInt8) (w : World) (hs : s.size ≤ 1099511627776) (h : 0 < s.size) (hv : begins s c = true) :
    Calls Tryz.prog 109 #[.string s, .string ⟨#[c]⟩] w fun e w' => e = .returned (.tuple #[.string (s.extract 1 s.size), .bool true]) ∧ w = w' := by
  have HV := Lib.hid hv
  clear hv
  go_enter Tryz.func109, Tryz.ntmps109
  go_wp2_with fail
  refine (hasPrefix_any s c w hs h true HV.out).mono ?_
  rintro r w1 ⟨rfl, rfl⟩
  go_wp2_with fail
  go_ret2
  exact ⟨rfl, rfl⟩

set_option maxHeartbeats 1000000 in
set_option maxRecDepth 100000 in
theorem cut109_no (s : ByteArray) (c : UInt8) (w : World) (hs : s.size ≤ 1099511627776) (h : 0 < s.size) (hv : begins s c = false) :
    Calls Tryz.prog 109 #[.string s, .string ⟨#[c]⟩] w fun e w' => e = .returned (.tuple #[.string s, .bool false]) ∧ w = w' := by
  have HV := Lib.hid hv
  clear hv
  go_enter Tryz.func109, Tryz.ntmps109
  go_wp2_with fail
  refine (hasPrefix_any s c w hs h false HV.out).mono ?_
  rintro r w1 ⟨rfl, rfl⟩
  go_wp2_with fail
  go_ret2
  exact ⟨rfl, rfl⟩

set_option maxHeartbeats 1000000 in
set_option maxRecDepth 100000 in
theorem cutPrefix_yes (s : ByteArray) (c : UInt8) (w : World) (hs : s.size ≤ 1099511627776) (h : 0 < s.size) (hv : begins s c = true) :
    Calls Tryz.prog 78 #[.string s, .string ⟨#[c]⟩] w fun e w' => e = .returned (.tuple #[.string (s.extract 1 s.size), .bool true]) ∧ w = w' := by
  have HV := Lib.hid hv
  clear hv
  go_enter Tryz.func78, Tryz.ntmps78
  go_wp2_with fail
  refine (cut109_yes s c w hs h HV.out).mono ?_
  rintro r w1 ⟨rfl, rfl⟩
  go_wp2_with fail
  go_ret2
  exact ⟨rfl, rfl⟩

set_option maxHeartbeats 1000000 in
set_option maxRecDepth 100000 in
theorem cutPrefix_no (s : ByteArray) (c : UInt8) (w : World) (hs : s.size ≤ 1099511627776) (h : 0 < s.size) (hv : begins s c = false) :
    Calls Tryz.prog 78 #[.string s, .string ⟨#[c]⟩] w fun e w' => e = .returned (.tuple #[.string s, .bool false]) ∧ w = w' := by
  have HV := Lib.hid hv
  clear hv
  go_enter Tryz.func78, Tryz.ntmps78
  go_wp2_with fail
  refine (cut109_no s c w hs h HV.out).mono ?_
  rintro r w1 ⟨rfl, rfl⟩
  go_wp2_with fail
  go_ret2
  exact ⟨rfl, rfl⟩

end Go.Proofs.YtbklpdcipfhdjaaGreatDoor.I
