/- The walks of the statement's own function, and of what lies between it and the rest. -/
import Derived.Test.YtedhgkddfgpfhaaDoorDi
import Derived.Test.YtedhgkddfgpfhaaDoorDf
namespace Go.Proofs.YtedhgkddfgpfhaaDoor.Dj
open Go.RowKit Go.Proofs.YtedhgkddfgpfhaaDoor.A Go.Proofs.YtedhgkddfgpfhaaDoor.B64 Go.Proofs.YtedhgkddfgpfhaaDoor.Q Go.Proofs.YtedhgkddfgpfhaaDoor.G Go.Proofs.YtedhgkddfgpfhaaDoor.Ey Go.Proofs.YtedhgkddfgpfhaaDoor.Di Go.Proofs.YtedhgkddfgpfhaaDoor.Df

theorem enc_no (b : Bool) : ∀ d, ∀ x ∈ encOf b d, x ≠ 63 := by
  intro d
  cases b
  · exact b64_no d
  · exact qenc_no d
theorem dec_ok (b : Bool) : DecOk (sgn b) (encOf b) := by
  intro s d w hs hd hlen
  cases b
  · exact decode_b s d w hs (List.length_pos_iff.2 hd) hlen
  · exact decode_q s d w hs hlen

theorem starts_cons (a : UInt8) (r : List UInt8) (h : starts r = true) : starts (a :: r) = true := by
  unfold starts
  split
  · rfl
  · rename_i heq
    injection heq with _ h2
    rw [← h2]; exact h
  · rename_i heq; cases heq
theorem starts_of_drop (l : List UInt8) (i : Nat) (h : starts (l.drop i) = true) : starts l = true := by
  induction i generalizing l with
  | zero => simpa using h
  | succ i ih =>
    cases l with
    | nil => simp at h; exact h
    | cons a r => exact starts_cons a r (ih r (by simpa using h))
theorem starts_none (l : List UInt8) (h : starts l = false) (i : Nat) : (l.drop i).take 2 ≠ [61, 63] := by
  intro e
  have : starts (l.drop i) = true := by
    match hl : l.drop i, e with
    | a :: b :: r, e =>
      simp only [List.take_succ_cons, List.take_zero] at e
      injection e with e1 e2
      injection e2 with e2 _
      subst e1; subst e2; rfl
    | [a], e => simp at e
    | [], e => simp at e
  rw [starts_of_drop l i this] at h; cases h

set_option maxHeartbeats 1000000 in
set_option maxRecDepth 100000 in
theorem plain_any (pd : Value) (t : ByteArray) (w : World) (h : startsB t = false) (hlen : t.size ≤ 1099511627776) :
    Calls Tryd.prog 10 #[pd, .string t] w fun r w' => r = .returned (.tuple #[.string t, .nilIface]) ∧ Below w.heap.size w w' := by
  have HN := Lib.hid (starts_none t.data.toList h)
  clear h
  go_enter Tryd.func10, Tryd.ntmps10
  go_wp2_with fail
  refine (zzIndex_none t ⟨#[61, 63]⟩ w hlen (by decide) (fun i _ => HN.out i)).mono ?_
  rintro r w1 ⟨rfl, rfl⟩
  go_wp2_with fail
  go_ret2
  exact ⟨rfl, Below.refl _ _⟩

/-- What DecodeHeader answers. -/
def Hd (t u : ByteArray) : Prop := ∀ (pd : Value) (w : World), Calls Tryd.prog 10 #[pd, .string t] w fun r w' => r = .returned (.tuple #[.string u, .nilIface]) ∧ Below w.heap.size w w'

set_option maxHeartbeats 1000000 in
set_option maxRecDepth 100000 in
theorem impl_decode (t u : ByteArray) (h : Hd t u) (w : World) :
    Calls Tryd.prog 7 #[.string t] w fun r w' => r = .returned (.tuple #[.string u, .bool true]) ∧ Below w.heap.size w w' := by
  have HH := Lib.hid h
  clear h
  go_enter Tryd.func7, Tryd.ntmps7
  go_wp2_with fail
  refine (HH.out _ _).mono ?_
  rintro r w1 ⟨rfl, hb⟩
  have HB : Hid (Below w.heap.size w w1) := Lib.hid (((Below.refl _ w).alloc (Nat.le_refl _) _).trans (hb.mono (by simp)))
  clear hb
  go_wp2_with fail
  go_quiet (fail)
  go_wp2_with fail
  go_ret2
  exact ⟨rfl, HB.out.os, HB.out.tape, HB.out.output, HB.out.size, HB.out.block⟩

set_option maxHeartbeats 1000000 in
theorem valid_any (s : ByteArray) (w : World) (hs : s.size ≤ 9223372036854775807) (hT : Lib.Utf8Tabs 0 1 w) :
    Calls Tryd.prog 4 #[.string s] w fun r w' => r = .returned (.bool (Lib.validD s.data.toList)) ∧ Below w.heap.size w w' := by
  have HT := Lib.hid hT
  clear hT
  go_enter Tryd.func4, Tryd.ntmps4
  go_wp2_with fail
  refine (Any.utf8_ValidString Tryd.laysValid s w hs HT.out).mono ?_
  rintro r w1 ⟨rfl, hb⟩
  have HB := Lib.hid hb
  clear hb
  go_wp2_with fail
  go_ret
  exact ⟨rfl, HB.out⟩

theorem hd_of (b : Bool) (s t : ByteArray) (hs : s.size ≤ 16777216) (h : (printB s = true ∧ t = s ∧ startsB s = false) ∨ (printB s = false ∧ Said (sgn b) (encOf b) s.data.toList t.data.toList)) : Hd t s := by
  intro pd w
  rcases h with ⟨_, rfl, h3⟩ | ⟨_, h2⟩
  · exact plain_any pd t w h3 (by omega)
  · exact words_any (sgn b) (encOf b) (enc_no b) (dec_ok b) pd t s.data.toList w h2 (by simp; omega)

set_option maxHeartbeats 4000000 in
set_option maxRecDepth 100000 in
theorem fnBack_any (b : Bool) (s : ByteArray) (w : World) (hT : Lib.Utf8Tabs 0 1 w) :
    Calls Tryd.prog 3 #[.bool b, .string s] w fun r w' => r = .returned (.bool true) ∧ Below w.heap.size w w' := by
  have HT := Lib.hid hT
  have h2 := tabs_lt hT
  clear hT
  by_cases hz1 : 2147483647 < s.size
  · go_enter Tryd.func3, Tryd.ntmps3
    go_wp2_with fail
    go_ret
    exact ⟨rfl, Below.refl _ _⟩
  by_cases hz2 : 16777216 < s.size
  · go_enter Tryd.func3, Tryd.ntmps3
    go_wp2_with fail
    go_ret
    exact ⟨rfl, Below.refl _ _⟩
  cases hv : Lib.validD s.data.toList with
  | false =>
    have hV := fun W hW => valid_any s W (by omega) hW
    rw [hv] at hV
    have HV := Lib.hid hV
    clear hV hv
    go_enter Tryd.func3, Tryd.ntmps3
    go_wp2_with fail
    refine (HV.out w HT.out).mono ?_
    rintro r w1 ⟨rfl, hb⟩
    have HB := Lib.hid hb
    clear hb
    go_wp2_with fail
    go_ret
    exact ⟨rfl, HB.out⟩
  | true =>
    have hV := fun W hW => valid_any s W (by omega) hW
    rw [hv] at hV
    have HV := Lib.hid hV
    clear hV hv
    cases hp : printB s with
    | true =>
      have hP := fun W => printable_any s W (by omega)
      rw [hp] at hP
      have HP := Lib.hid hP
      clear hP
      cases hst : startsB s with
      | true =>
        have hS := fun W => starts_any s W (by omega)
        rw [hst] at hS
        have HS := Lib.hid hS
        clear hS hst hp
        go_enter Tryd.func3, Tryd.ntmps3
        go_wp2_with fail
        refine (HV.out w HT.out).mono ?_
        rintro r w1 ⟨rfl, hb⟩
        have HB := Lib.hid hb
        clear hb
        go_wp2_with fail
        refine (HP.out w1).mono ?_
        rintro r w2 ⟨rfl, rfl⟩
        go_wp2_with fail
        refine (HS.out w1).mono ?_
        rintro r w2 ⟨rfl, rfl⟩
        go_wp2_with fail
        go_ret
        exact ⟨rfl, HB.out⟩
      | false =>
        have hS := fun W => starts_any s W (by omega)
        rw [hst] at hS
        have HS := Lib.hid hS
        have HX := Lib.hid (And.intro hp hst)
        clear hS hst hp
        go_enter Tryd.func3, Tryd.ntmps3
        go_wp2_with fail
        refine (HV.out w HT.out).mono ?_
        rintro r w1 ⟨rfl, hb⟩
        have HB := Lib.hid hb
        have T1 := Lib.hid (tabs_below HT.out hb h2)
        clear hb
        go_wp2_with fail
        refine (HP.out w1).mono ?_
        rintro r w2 ⟨rfl, rfl⟩
        go_wp2_with fail
        refine (HS.out w1).mono ?_
        rintro r w2 ⟨rfl, rfl⟩
        go_wp2_with fail
        refine (impl_encode b ⟨#[117, 116, 102, 45, 56]⟩ s w1 rfl (by omega) T1.out).mono ?_
        rintro r w2 ⟨t, rfl, hb2, ht⟩
        have HD := Lib.hid (hd_of b s t (by omega) (ht.elim (fun h => .inl ⟨h.1, h.2, HX.out.2⟩) .inr))
        have HB2 := Lib.hid (HB.out.trans (hb2.mono HB.out.size))
        clear ht hb2
        go_wp2_with fail
        refine (impl_decode t s HD.out w2).mono ?_
        rintro r w3 ⟨rfl, hb3⟩
        have HB3 := Lib.hid (HB2.out.trans (hb3.mono HB2.out.size))
        clear hb3
        go_wp2_with fail
        go_ret
        exact ⟨by simp, HB3.out⟩
    | false =>
      have hP := fun W => printable_any s W (by omega)
      rw [hp] at hP
      have HP := Lib.hid hP
      have HX := Lib.hid hp
      clear hP hp
      go_enter Tryd.func3, Tryd.ntmps3
      go_wp2_with fail
      refine (HV.out w HT.out).mono ?_
      rintro r w1 ⟨rfl, hb⟩
      have HB := Lib.hid hb
      have T1 := Lib.hid (tabs_below HT.out hb h2)
      clear hb
      go_wp2_with fail
      refine (HP.out w1).mono ?_
      rintro r w2 ⟨rfl, rfl⟩
      go_wp2_with fail
      refine (impl_encode b ⟨#[117, 116, 102, 45, 56]⟩ s w1 rfl (by omega) T1.out).mono ?_
      rintro r w2 ⟨t, rfl, hb2, ht⟩
      have HD := Lib.hid (hd_of b s t (by omega) (ht.elim (fun h => by rw [HX.out] at h; cases h.1) .inr))
      have HB2 := Lib.hid (HB.out.trans (hb2.mono HB.out.size))
      clear ht hb2
      go_wp2_with fail
      refine (impl_decode t s HD.out w2).mono ?_
      rintro r w3 ⟨rfl, hb3⟩
      have HB3 := Lib.hid (HB2.out.trans (hb3.mono HB2.out.size))
      clear hb3
      go_wp2_with fail
      go_ret
      exact ⟨by simp, HB3.out⟩

end Go.Proofs.YtedhgkddfgpfhaaDoor.Dj
