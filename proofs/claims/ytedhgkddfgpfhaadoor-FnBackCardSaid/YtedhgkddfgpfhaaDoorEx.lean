/- The walks of encodeWord and of Encode. -/
import Derived.Test.YtedhgkddfgpfhaaDoorBl
import Derived.Test.YtedhgkddfgpfhaaDoorB
namespace Go.Proofs.YtedhgkddfgpfhaaDoor.Ex
open Go.RowKit Go.Proofs.YtedhgkddfgpfhaaDoor.B64 Go.Proofs.YtedhgkddfgpfhaaDoor.Bd Go.Proofs.YtedhgkddfgpfhaaDoor.Q Go.Proofs.YtedhgkddfgpfhaaDoor.QB Go.Proofs.YtedhgkddfgpfhaaDoor.E Go.Proofs.YtedhgkddfgpfhaaDoor.G Go.Proofs.YtedhgkddfgpfhaaDoor.Be

/-- A text of words whose contents encode s. -/
def Res (e : UInt8) (enc : List UInt8 → List UInt8) (s : ByteArray) (w : World) (r : Ending) (w' : World) : Prop :=
  ∃ t : List UInt8, r = .returned (.string ⟨t.toArray⟩) ∧ Said e enc s.data.toList t ∧ Below w.heap.size w w'

theorem grow_any (w : World) : Calls Tryd.prog 34 #[.pointer (some ⟨w.heap.size, 0, none⟩), .int .i64 48] (w.alloc (.cells #[.pointer none, .slice none 0 0] 48)) fun r w' => r = .returned (.tuple #[]) ∧ Bd w.heap.size w.heap.size [] w' ∧ Below w.heap.size w w' := by
  refine (Tryd.Builder_Grow_fresh w.heap.size w.heap.size 48 (w.alloc (.cells #[.pointer none, .slice none 0 0] 48)) (Nat.le_refl _) (heap_alloc_new w _) (by simp) (by omega)).mono ?_
  rintro r w' ⟨rfl, h1, h2⟩
  exact ⟨rfl, .inr (Lib.BuilderAtF.of h1), ((Below.refl _ w).alloc (Nat.le_refl _) _).trans h2⟩

set_option maxHeartbeats 4000000 in
set_option maxRecDepth 100000 in
theorem word_q (cs s : ByteArray) (w : World) (hcs : cs.data.toList = [117, 116, 102, 45, 56]) (hs : s.size ≤ 17179869184) (h0 : 0 < s.size) (hT : Lib.Utf8Tabs 0 1 w) :
    Calls Tryd.prog 21 #[.int .u8 113, .string cs, .string s] w (Res 113 qenc s w) := by
  have HC := Lib.hid hcs
  have HT := Lib.hid hT
  have h2 := tabs_lt hT
  clear hcs hT
  go_enter Tryd.func21, Tryd.ntmps21
  go_wp2_with fail
  refine (grow_any w).mono ?_
  rintro r w1 ⟨rfl, hb1, b1⟩
  have z1 := b1.size
  go_wp2_with fail
  refine (openWord_any _ _ [] 113 (by omega) cs _ hb1 HC.out (by simp) z1).mono ?_
  rintro r w2 ⟨rfl, hb2, k2⟩
  have z2 := k2.size
  have B2 := Lib.hid (b1.trans k2.below)
  clear b1 k2 hb1
  go_wp2_with fail
  refine (qEncode_any _ _ cs s _ (by simpa using hb2) HC.out hs h0 (by omega) (tabs_below HT.out B2.out h2) h2).mono ?_
  rintro r w3 ⟨rfl, h3⟩
  obtain ⟨⟨l, hq, hb3⟩, hw3⟩ := h3
  have z3 := hw3.size
  have hlen := QI_len hq
  have HS : Hid (Said 113 qenc s.data.toList (l ++ [63, 61])) := Lib.hid (QI_end (by simpa using hq) (by simpa using h0))
  have B3 := Lib.hid (B2.out.trans hw3.below)
  clear hq hw3 hb2 B2
  go_wp2_with fail
  refine (closeWord_any _ _ l _ hb3 (by omega) (by omega)).mono ?_
  rintro r w4 ⟨rfl, hb4, k4⟩
  have z4 := k4.size
  have B4 := Lib.hid (B3.out.trans k4.below)
  clear k4 hb3 B3
  go_wp2_with fail
  refine (Tryd.Builder_String_any_k _ _ (l ++ [63, 61]) _ hb4 (by omega)).mono ?_
  rintro r w5 ⟨rfl, _, b5, _⟩
  have HF := Lib.hid (B4.out.trans b5)
  clear b5 hb4 B4
  go_wp2_with fail
  go_ret
  exact ⟨_, rfl, HS.out, HF.out⟩

theorem bEncode_any (B b : Nat) (cs s : ByteArray) (w : World) (h : Bd B b (opn 98) w) (hcs : cs.data.toList = [117, 116, 102, 45, 56]) (hs : s.size ≤ 17179869184) (h0 : 0 < s.size) (hBw : B ≤ w.heap.size) (hT : Lib.Utf8Tabs 0 1 w) (hB2 : 2 ≤ B) :
    Calls Tryd.prog 36 #[.int .u8 98, .pointer (some ⟨b, 0, none⟩), .string cs, .string s] w fun r w' => r = .returned (.tuple #[]) ∧ (∃ l, l.length ≤ 549755813888 ∧ Said 98 b64 s.data.toList (l ++ [63, 61]) ∧ Bd B b l w') ∧ Below B w w' := by
  have hl : s.data.toList.length = s.size := by simp
  by_cases h45 : s.size ≤ 45
  · refine (short_any B b cs s w h hcs h45 h0 hBw).mono ?_
    rintro r w' ⟨rfl, h1, h2⟩
    refine ⟨rfl, ⟨_, ?_, ?_, h1⟩, h2⟩
    · rw [List.length_append, b64_len]; simp [opn]; omega
    · have := BI_end (BI_zero s.data.toList) (by omega)
      simpa using this
  · refine (long_any B b cs s w h hcs hs (by omega) hBw hT hB2).mono ?_
    rintro r w' ⟨rfl, ⟨la, l, hla, h1, h2⟩, h3⟩
    refine ⟨rfl, ⟨_, ?_, BI_end h1 (by omega), h2⟩, h3⟩
    have := BI_len h1
    rw [List.length_append, b64_len, List.length_drop]
    omega

set_option maxHeartbeats 4000000 in
set_option maxRecDepth 100000 in
theorem word_b (cs s : ByteArray) (w : World) (hcs : cs.data.toList = [117, 116, 102, 45, 56]) (hs : s.size ≤ 17179869184) (h0 : 0 < s.size) (hT : Lib.Utf8Tabs 0 1 w) :
    Calls Tryd.prog 21 #[.int .u8 98, .string cs, .string s] w (Res 98 b64 s w) := by
  have HC := Lib.hid hcs
  have HT := Lib.hid hT
  have h2 := tabs_lt hT
  clear hcs hT
  go_enter Tryd.func21, Tryd.ntmps21
  go_wp2_with fail
  refine (grow_any w).mono ?_
  rintro r w1 ⟨rfl, hb1, b1⟩
  have z1 := b1.size
  go_wp2_with fail
  refine (openWord_any _ _ [] 98 (by omega) cs _ hb1 HC.out (by simp) z1).mono ?_
  rintro r w2 ⟨rfl, hb2, k2⟩
  have z2 := k2.size
  have B2 := Lib.hid (b1.trans k2.below)
  clear b1 k2 hb1
  go_wp2_with fail
  refine (bEncode_any _ _ cs s _ (by simpa using hb2) HC.out hs h0 (by omega) (tabs_below HT.out B2.out h2) h2).mono ?_
  rintro r w3 ⟨rfl, ⟨l, hlen, hS, hb3⟩, b3⟩
  have z3 := b3.size
  have HS := Lib.hid hS
  have B3 := Lib.hid (B2.out.trans b3)
  clear b3 hb2 B2 hS
  go_wp2_with fail
  refine (closeWord_any _ _ l _ hb3 (by omega) (by omega)).mono ?_
  rintro r w4 ⟨rfl, hb4, k4⟩
  have z4 := k4.size
  have B4 := Lib.hid (B3.out.trans k4.below)
  clear k4 hb3 B3
  go_wp2_with fail
  refine (Tryd.Builder_String_any_k _ _ (l ++ [63, 61]) _ hb4 (by omega)).mono ?_
  rintro r w5 ⟨rfl, _, b5, _⟩
  have HF := Lib.hid (B4.out.trans b5)
  clear b5 hb4 B4
  go_wp2_with fail
  go_ret
  exact ⟨_, rfl, HS.out, HF.out⟩

end Go.Proofs.YtedhgkddfgpfhaaDoor.Ex
