/- The walk of Encode, and its wrapper: a printable text as it is, or a text of encoded words. -/
import Derived.Test.YtedhgkddfgpfhaaDoorEx
namespace Go.Proofs.YtedhgkddfgpfhaaDoor.Ey
open Go.RowKit Go.Proofs.YtedhgkddfgpfhaaDoor.A Go.Proofs.YtedhgkddfgpfhaaDoor.B64 Go.Proofs.YtedhgkddfgpfhaaDoor.Q Go.Proofs.YtedhgkddfgpfhaaDoor.G Go.Proofs.YtedhgkddfgpfhaaDoor.Ex

/-- What Encode answers, for the sign e of its encoding. -/
def Enc (e : UInt8) (enc : List UInt8 → List UInt8) (s : ByteArray) (w : World) (r : Ending) (w' : World) : Prop :=
  ∃ t : ByteArray, r = .returned (.string t) ∧ Below w.heap.size w w' ∧ ((printB s = true ∧ t = s) ∨ (printB s = false ∧ Said e enc s.data.toList t.data.toList))

theorem size_pos (s : ByteArray) (h : printB s = false) : 0 < s.size := by
  rcases Nat.eq_zero_or_pos s.size with h0 | h0
  · have : s.data.toList = [] := List.eq_nil_of_length_eq_zero (by simpa using h0)
    unfold printB at h; rw [this] at h; cases h
  · exact h0

theorem word_any (e : UInt8) (enc : List UInt8 → List UInt8) (he : (e = 113 ∧ enc = qenc) ∨ (e = 98 ∧ enc = b64)) (cs s : ByteArray) (w : World) (hcs : cs.data.toList = [117, 116, 102, 45, 56]) (hs : s.size ≤ 17179869184) (h0 : 0 < s.size) (hT : Lib.Utf8Tabs 0 1 w) :
    Calls Tryd.prog 21 #[.int .u8 e.toNat, .string cs, .string s] w (Res e enc s w) := by
  rcases he with ⟨rfl, rfl⟩ | ⟨rfl, rfl⟩
  · exact word_q cs s w hcs hs h0 hT
  · exact word_b cs s w hcs hs h0 hT

set_option maxHeartbeats 1000000 in
set_option maxRecDepth 100000 in
theorem encode_any (e : UInt8) (enc : List UInt8 → List UInt8) (he : (e = 113 ∧ enc = qenc) ∨ (e = 98 ∧ enc = b64)) (cs s : ByteArray) (w : World) (hcs : cs.data.toList = [117, 116, 102, 45, 56]) (hs : s.size ≤ 17179869184) (hT : Lib.Utf8Tabs 0 1 w) :
    Calls Tryd.prog 12 #[.int .u8 e.toNat, .string cs, .string s] w (Enc e enc s w) := by
  have HC := Lib.hid hcs
  have HT := Lib.hid hT
  have h2 := tabs_lt hT
  have HE := Lib.hid he
  clear hcs hT he
  go_enter Tryd.func12, Tryd.ntmps12
  go_wp2_with fail
  refine (B.needs_any s w).mono ?_
  rintro r w1 ⟨rfl, hb1⟩
  have B1 := Lib.hid hb1
  have T1 := Lib.hid (tabs_below HT.out hb1 h2)
  clear hb1
  by_cases hp : printB s = true
  · have b1 : (!!printB s) = true := by simp [hp]
    have P := Lib.hid hp
    clear hp
    go_wp2_with fail
    go_ret
    exact ⟨_, rfl, B1.out, .inl ⟨P.out, rfl⟩⟩
  · have hp' : printB s = false := by simpa using hp
    have b1 : (!!printB s) = false := by simp [hp']
    have P := Lib.hid hp'
    clear hp hp'
    go_wp2_with fail
    refine (word_any e enc HE.out cs s _ HC.out hs (size_pos s P.out) T1.out).mono ?_
    rintro r w2 ⟨t, rfl, hS, hb2⟩
    have F := Lib.hid (And.intro hS (B1.out.trans (hb2.mono B1.out.size)))
    clear hS hb2
    go_wp2_with fail
    go_ret
    exact ⟨_, rfl, F.out.2, .inr ⟨P.out, F.out.1⟩⟩

def sgn (b : Bool) : UInt8 := if b then 113 else 98
def encOf (b : Bool) : List UInt8 → List UInt8 := if b then qenc else b64

set_option maxHeartbeats 1000000 in
theorem sign_any (b : Bool) (w : World) : Calls Tryd.prog 11 #[.bool b] w fun r w' => r = .returned (.int .u8 (sgn b).toNat) ∧ w = w' := by
  cases b
  · go_enter Tryd.func11, Tryd.ntmps11
    go_wp2
    go_ret
    exact ⟨rfl, rfl⟩
  · go_enter Tryd.func11, Tryd.ntmps11
    go_wp2
    go_ret
    exact ⟨rfl, rfl⟩

set_option maxHeartbeats 1000000 in
theorem impl_encode (b : Bool) (cs s : ByteArray) (w : World) (hcs : cs.data.toList = [117, 116, 102, 45, 56]) (hs : s.size ≤ 17179869184) (hT : Lib.Utf8Tabs 0 1 w) :
    Calls Tryd.prog 8 #[.bool b, .string cs, .string s] w (Enc (sgn b) (encOf b) s w) := by
  have HC := Lib.hid hcs
  have HT := Lib.hid hT
  clear hcs hT
  go_enter Tryd.func8, Tryd.ntmps8
  go_wp2_with fail
  refine (sign_any b w).mono ?_
  rintro r w1 ⟨rfl, rfl⟩
  go_wp2_with fail
  refine (encode_any (sgn b) (encOf b) (by cases b <;> simp [sgn, encOf]) cs s _ HC.out hs HT.out).mono ?_
  rintro r w2 ⟨t, rfl, h⟩
  have F := Lib.hid h
  clear h
  go_wp2_with fail
  go_ret
  exact ⟨_, rfl, F.out⟩

end Go.Proofs.YtedhgkddfgpfhaaDoor.Ey
