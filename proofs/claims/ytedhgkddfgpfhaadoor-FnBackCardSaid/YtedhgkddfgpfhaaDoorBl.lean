/- The walk of bEncode over a long text: Base64 in several words. -/
import Derived.Test.YtedhgkddfgpfhaaDoorBe
import Derived.Test.YtedhgkddfgpfhaaDoorQB
namespace Go.Proofs.YtedhgkddfgpfhaaDoor.Be
open Go.RowKit Go.Proofs.YtedhgkddfgpfhaaDoor.B64 Go.Proofs.YtedhgkddfgpfhaaDoor.N Go.Proofs.YtedhgkddfgpfhaaDoor.En Go.Proofs.YtedhgkddfgpfhaaDoor.Bd Go.Proofs.YtedhgkddfgpfhaaDoor.Q Go.Proofs.YtedhgkddfgpfhaaDoor.QB Go.Proofs.YtedhgkddfgpfhaaDoor.E Go.Proofs.YtedhgkddfgpfhaaDoor.Ew Go.Proofs.YtedhgkddfgpfhaaDoor.G

/-- The state of the walk: bytes before la are written. -/
structure Ls (B e g b : Nat) (s : ByteArray) (w : World) (la : Nat) (wr : World) : Prop where
  out : ∃ l, BI s.data.toList la l ∧ Eb B e g b l wr
  below : Below B w wr

theorem Ls.size {B e g b la : Nat} {s : ByteArray} {w wr : World} (h : Ls B e g b s w la wr) : w.heap.size ≤ wr.heap.size := h.below.size

theorem nil_ahead (a : Addr) (w : World) : (nilAhead 266 140 (.pointer (some a)) "Write").run Tryd.prog w = .ok (some false) w := by kernel_rfl

theorem nil_ahead2 (a : Addr) (w : World) : (nilAhead 266 140 (.pointer (some a)) "Write").run Tryd.prog w = .ok (some false) w := by kernel_rfl

theorem eb_wk {B e g b : Nat} {l l' : List UInt8} {w w' : World} (h : Eb B e g b l w) (hb : Bd B b l' w') (hk : Wk B b w w') : Eb B e g b l' w' := by
  obtain ⟨c, fz, hc⟩ := h.ek.row
  exact ⟨h.ek.same ((hk.others e _ hc (by simpa using h.heb) (by simp)).trans hc.symm), hk.others g _ h.enc (by simpa using h.hgb) (by simp), hb, h.heb, h.hgb, h.hge, h.hBe, Nat.le_trans h.hB hk.below.size⟩

set_option maxHeartbeats 16000000 in
set_option maxRecDepth 100000 in
theorem long_any (B b : Nat) (cs s : ByteArray) (w : World) (h : Bd B b (opn 98) w) (hcs : cs.data.toList = [117, 116, 102, 45, 56]) (hs : s.size ≤ 17179869184) (h0 : 45 < s.size) (hBw : B ≤ w.heap.size) (hT : Lib.Utf8Tabs 0 1 w) (hB2 : 2 ≤ B) :
    Calls Tryd.prog 36 #[.int .u8 98, .pointer (some ⟨b, 0, none⟩), .string cs, .string s] w fun r w' => r = .returned (.tuple #[]) ∧ (∃ la l, la < s.size ∧ BI s.data.toList la l ∧ Bd B b (l ++ b64 (s.data.toList.drop la)) w') ∧ Below B w w' := by
  have HC := Lib.hid hcs
  have HB := Lib.hid h
  have HT := Lib.hid hT
  clear hcs h hT
  go_enter Tryd.func36, Tryd.ntmps36
  go_wp2_with fail
  refine (stdEnc w).mono ?_
  rintro r w1 ⟨rfl, hb1, hi1⟩
  go_wp2_with fail
  refine (newEncoder w.heap.size b w1).mono ?_
  rintro r w2 ⟨rfl, hb2, he2⟩
  have hE2 := eb_mk HB.out hb1 hi1 hb2 he2 hBw
  have HE2 := Lib.hid hE2
  have z2 := Nat.le_trans hb1.size hb2.size
  have B2 := Lib.hid (hb1.trans (hb2.mono hb1.size))
  clear hE2 hi1 he2 hb1 hb2
  go_wp2_with fail
  refine (isUTF8_any cs w2 HC.out).mono ?_
  rintro r w3 ⟨rfl, rfl⟩
  go_wp2_with fail
  refine (stdEnc w2).mono ?_
  rintro r w3 ⟨rfl, hb3, hi3⟩
  go_wp2_with fail
  obtain ⟨m, hm⟩ : ∃ m, m = (s.size + 2) / 3 * 4 := ⟨_, rfl⟩
  have hm63 : 63 < m := by omega
  refine (encodedLen_call (n := s.size) hi3 (by omega) m hm w3 rfl).mono ?_
  clear hm
  rintro r w4 ⟨rfl, rfl⟩
  have b1 : decide ((m : Int) ≤ 63) = false := decide_eq_false (by omega)
  have HE3 := HE2.out.below hb3
  have B3 := B2.out.trans (hb3.mono z2)
  obtain ⟨e, he⟩ : ∃ e, e = w1.heap.size := ⟨_, rfl⟩
  obtain ⟨g, hg⟩ : ∃ g, g = w.heap.size := ⟨_, rfl⟩
  have HL : Hid (Ls B e g b s w 0 w3) := Lib.hid ⟨⟨_, BI_zero _, by rw [he, hg]; exact HE3⟩, B3.mono hBw⟩
  rw [← he]
  clear hi3 hb3 HE3 B3 he hg B2 HE2 z2 HB
  go_wp2_with fail
  go_loopw [9, 10, 12] (fun c la i wr => ∃ k l cur : Nat, k ≤ s.size ∧ cur ≤ 45 ∧ l ≤ k ∧ i = .int .i64 k ∧ la = .int .i64 l ∧ c = .int .i64 cur ∧ Hid (l + cur = k ∧ (0 < k → 0 < cur)) ∧ Hid (Ls B e g b s w l wr)) (fun _ _ i _ => s.size - (intOf i).toNat)
  case atStart => exact ⟨0, 0, 0, Nat.zero_le _, by omega, by omega, rfl, rfl, rfl, Lib.hid ⟨rfl, fun h => h⟩, HL⟩
  case round =>
    obtain ⟨k, la, cur, hk, hcur, hlk, rfl, rfl, rfl, HQ, HS⟩ := hrel
    clear HL
    have hz : w.heap.size ≤ wr.heap.size := HS.out.size
    by_cases hlt : k < s.size
    · have HT1 := Lib.hid (tabs_below HT.out HS.out.below hB2)
      go_wp2_with fail
      refine (decode_any s k hlt _ HT1.out).mono ?_
      rintro r w5 ⟨q, n, rfl, n1, n4, nk, hb5⟩
      have HS5 : Hid (Ls B e g b s w la w5) := Lib.hid (by
        obtain ⟨⟨l, h1, h2⟩, h3⟩ := HS.out
        exact ⟨⟨l, h1, h2.below hb5⟩, h3.trans (hb5.mono (by omega))⟩)
      have hz5 := hb5.size
      clear hb5 HS HT1
      by_cases hsp : cur + n ≤ 45
      · have bs : decide ((cur : Int) + (n : Int) ≤ 45) = true := decide_eq_true (by omega)
        go_wp2_with fail
        go_roundw
        case rel => exact ⟨k + n, la, cur + n, by omega, by omega, by omega, by go_num, rfl, by go_num, Lib.hid ⟨by have := HQ.out.1; omega, fun _ => by omega⟩, HS5⟩
        case measure => simp [intOf]; omega
      · have bs : decide ((cur : Int) + (n : Int) ≤ 45) = false := decide_eq_false (by omega)
        obtain ⟨⟨l, hl1, hl2⟩, hl3⟩ := HS5.out
        have hlen := BI_len hl1
        have hE5 : Eb B e g b l w5.drew := hl2.below (Below.refl _ _).drew
        obtain ⟨p, hpe⟩ : ∃ p, s.extract la k = p := ⟨_, rfl⟩
        have hps : p.size = cur := by rw [← hpe]; simp; have := HQ.out.1; omega
        have hpd : p.data.toList = (s.data.toList.drop la).take (k - la) := by rw [← hpe, Lib.extract_data]
        have hc0 : 0 < cur := by omega
        obtain ⟨cap, W, hcv, hcap, HP, HW, _⟩ := conv w5.drew p
        have HWr := Lib.hid (wr_call hE5 (pb := w5.heap.size) rfl hcap HP.out HW.out (by omega) (by omega) (by omega))
        have HE5 := Lib.hid hE5
        have Hps := Lib.hid hps
        have Hpd := Lib.hid hpd
        have HL1 := Lib.hid hl1
        have i1 : (la : Int) ≤ (k : Int) := by omega
        have i2 : (k : Int) ≤ (s.size : Int) := by omega
        have i3 : (0 : Int) ≤ (la : Int) := by omega
        clear hl1 hl2 hps hpd hE5 HS5
        have na := nil_ahead
        go_wp2_with fail
        go_region_with (go_at_call 96; refine HWr.out.mono ?_; rintro r W1 ⟨rfl, hw1⟩)
        all_goals
          have HW1 := Lib.hid hw1
          clear hw1
          go_wp2_with fail
          refine (cl_call HE5.out HW1.out (by rw [Hps.out]; omega) (by omega)).mono ?_
          rintro r W2 ⟨rfl, hE6, hb6⟩
          have hz6 := hb6.size
          have hz7 : w.heap.size ≤ W2.heap.size := Nat.le_trans hz (Nat.le_trans hz5 hz6)
          go_wp2_with fail
          refine (splitWord_any B b _ 98 (by omega) cs _ hE6.bd HC.out (by rw [List.length_append, b64_len]; have : p.data.toList.length = p.size := by simp
                                                                           have := Hps.out
                                                                           omega) (by omega)).mono ?_
          rintro r W3 ⟨rfl, hb7, k7⟩
          have HN : Hid (Ls B e g b s w k W3) := Lib.hid ⟨⟨_, BI_split HL1.out k (by have := HQ.out.1; omega) (by simpa using hk), by rw [← Hpd.out]; exact eb_wk hE6 hb7 k7⟩, (hl3.drew.trans hb6).trans k7.below⟩
          clear hE6 hb7 k7 hb6
          go_wp2_with fail
          go_roundw
          case rel => exact ⟨k + n, k, n, by omega, by omega, by omega, by go_num, rfl, rfl, Lib.hid ⟨rfl, fun _ => by omega⟩, HN⟩
          case measure => simp [intOf]; omega
    · have HLt : Hid (la < s.size) := Lib.hid (by have := HQ.out; omega)
      obtain ⟨⟨l, hl1, hl2⟩, hl3⟩ := HS.out
      have hlen := BI_len hl1
      have hE5 : Eb B e g b l wr.drew := hl2.below (Below.refl _ _).drew
      obtain ⟨p, hpe⟩ : ∃ p, s.extract la s.size = p := ⟨_, rfl⟩
      have hps : p.size ≤ 45 ∧ 0 < p.size := by rw [← hpe]; have := HQ.out; simp; omega
      have hpd : p.data.toList = s.data.toList.drop la := by rw [← hpe, Lib.extract_to_end]
      obtain ⟨cap, W, hcv, hcap, HP, HW, _⟩ := conv wr.drew p
      have HWr := Lib.hid (wr_call hE5 (pb := wr.heap.size) rfl hcap HP.out HW.out (by omega) (by omega) (by omega))
      have HE5 := Lib.hid hE5
      have hps1 := hps.1
      have Hpd := Lib.hid hpd
      have HL1 := Lib.hid hl1
      have i1 : (la : Int) ≤ (s.size : Int) := by omega
      have i3 : (0 : Int) ≤ (la : Int) := by omega
      clear hl1 hl2 hps hpd hE5 HS
      have na := nil_ahead2
      go_wp2_with fail
      go_region_with (go_at_call 96; refine HWr.out.mono ?_; rintro r W1 ⟨rfl, hw1⟩)
      all_goals
        have HW1 := Lib.hid hw1
        clear hw1
        go_wp2_with fail
        refine (cl_call HE5.out HW1.out (by omega) (by omega)).mono ?_
        rintro r W2 ⟨rfl, hE6, hb6⟩
        have HF : Hid ((∃ la l, la < s.size ∧ BI s.data.toList la l ∧ Bd B b (l ++ b64 (s.data.toList.drop la)) W2) ∧ Below B w W2) := Lib.hid ⟨⟨la, l, HLt.out, HL1.out, by rw [← Hpd.out]; exact hE6.bd⟩, hl3.drew.trans hb6⟩
        clear hE6 hb6
        go_wp2_with fail
        go_end0
        exact ⟨rfl, HF.out⟩

end Go.Proofs.YtedhgkddfgpfhaaDoor.Be
