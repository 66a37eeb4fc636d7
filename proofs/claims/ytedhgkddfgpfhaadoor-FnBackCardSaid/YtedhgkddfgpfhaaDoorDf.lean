/- The walks of DecodeString and of decode. -/
import Derived.Test.YtedhgkddfgpfhaaDoorDe
namespace Go.Proofs.YtedhgkddfgpfhaaDoor.Df
open Go.RowKit Go.Proofs.YtedhgkddfgpfhaaDoor.B64 Go.Proofs.YtedhgkddfgpfhaaDoor.N Go.Proofs.YtedhgkddfgpfhaaDoor.En Go.Proofs.YtedhgkddfgpfhaaDoor.Ew Go.Proofs.YtedhgkddfgpfhaaDoor.Be Go.Proofs.YtedhgkddfgpfhaaDoor.Q Go.Proofs.YtedhgkddfgpfhaaDoor.Dq Go.Proofs.YtedhgkddfgpfhaaDoor.Da Go.Proofs.YtedhgkddfgpfhaaDoor.Dd Go.Proofs.YtedhgkddfgpfhaaDoor.De

theorem dec_of {d : List UInt8} {D cap B : Nat} {w w1 w2 : World} (hb : Below w.heap.size w w1) (hB : w.heap.size = B) (hD : B ≤ D) (h : Qu D 0 d w1 w2) : Dec d w (.returned (.tuple #[.slice (some ⟨D, 0, none⟩) d.length cap, .nilIface])) w2 := by
  subst hB
  refine ⟨D, cap, rfl, ?_, hD, hb.trans ⟨h.qp.os, h.qp.tape, h.qp.output, h.qp.size, fun k hk => h.qp.block k (Nat.lt_of_lt_of_le hk hb.size) (by omega)⟩⟩
  intro j x hx; exact h.out j x hx

set_option maxHeartbeats 8000000 in
set_option maxRecDepth 100000 in
theorem decodeString_any (g : Nat) (s : ByteArray) (d : List UInt8) (w : World) (hI : IsEnc g 64 w) (hs : s.data.toList = b64 d) (h0 : 0 < d.length) (hlen : s.size ≤ 1099511627776) :
    Calls Tryd.prog 24 #[.pointer (some ⟨g, 0, none⟩), .string s] w (Dec d w) := by
  have hg := hI.lt
  have HI := Lib.hid hI
  have HS := Lib.hid hs
  have hsz : s.size = (d.length + 2) / 3 * 4 := by
    have h1 : s.data.toList.length = s.size := by simp
    rw [← h1, hs, b64_len]
  obtain ⟨N, hN⟩ : ∃ N, N = s.size / 4 * 3 := ⟨_, rfl⟩
  have HN : Hid (N = (d.length + 2) / 3 * 3) := Lib.hid (by omega)
  have hN2 : N ≤ s.size := by omega
  have hdN : d.length ≤ N := by omega
  have HSz := Lib.hid hsz
  have H0 := Lib.hid h0
  clear hI hs hsz h0
  go_enter Tryd.func24, Tryd.ntmps24
  go_wp2_with fail
  have hc := decodedLen_any g s.size w HI.out hlen
  rw [← hN] at hc
  have HN0 := Lib.hid hN
  clear hN
  refine hc.mono ?_
  clear hc
  rintro r w1 ⟨rfl, rfl⟩
  go_wp2_with fail
  obtain ⟨W, hmk, HM, HW, HZ⟩ := make_bytes N (by omega) w
  rw [hmk]
  simp only [Result.andThen]
  rw [Oper.upon_value]
  clear hmk
  go_wp2_with fail
  obtain ⟨cap, W2, hcv, hcap, HP, HW2, HZ2⟩ := conv W s
  rw [hcv]
  simp only [Result.andThen]
  rw [Oper.upon_value]
  clear hcv
  have HLt : Hid (W.heap.size < W2.heap.size ∧ w.heap.size < W2.heap.size ∧ W.heap.size ≠ w.heap.size ∧ g ≠ w.heap.size ∧ w.heap.size < W.heap.size) := by
    have z1 := HZ.out
    have z2 := HZ2.out
    exact Lib.hid (by omega)
  have HB2 : Hid (Below w.heap.size w W2) := Lib.hid (HW.out.trans (HW2.out.mono HW.out.size))
  have HI2 : Hid (IsEnc g 64 W2) := Lib.hid ((HB2.out.block g hg).trans HI.out)
  have HM2 : Hid (Mk w.heap.size N W2) := by
    refine Lib.hid fun j hj => ?_
    have hb : W2.heap[w.heap.size]? = W.heap[w.heap.size]? := HW2.out.block _ HLt.out.2.2.2.2
    have := HM.out j hj
    unfold World.cell? World.frozen? at *
    rw [hb]; exact this
  go_wp2_with fail
  refine (decode_any g w.heap.size W.heap.size s.size N cap d W2 HI2.out (by rw [← HS.out]; exact HP.out) HSz.out HN.out H0.out hlen hcap HM2.out HLt.out.1 HLt.out.2.1 HLt.out.2.2.1 HLt.out.2.2.2.1).mono ?_
  rintro r w3 ⟨rfl, hq⟩
  have HF : Hid (∀ c, Dec d w (.returned (.tuple #[.slice (some ⟨w.heap.size, 0, none⟩) d.length c, .nilIface])) w3) := Lib.hid fun c => dec_of HB2.out rfl (Nat.le_refl _) hq
  clear hq
  go_wp2_with fail
  go_ret2
  exact HF.out _

set_option maxHeartbeats 4000000 in
set_option maxRecDepth 100000 in
theorem decode_b (s : ByteArray) (d : List UInt8) (w : World) (hs : s.data.toList = b64 d) (h0 : 0 < d.length) (hlen : s.size ≤ 1099511627776) :
    Calls Tryd.prog 16 #[.int .u8 98, .string s] w (Dec d w) := by
  have HS := Lib.hid hs
  clear hs
  go_enter Tryd.func16, Tryd.ntmps16
  go_wp2_with fail
  refine (stdEnc w).mono ?_
  rintro r w1 ⟨rfl, hb1, hi1⟩
  have HB := Lib.hid hb1
  have HI := Lib.hid hi1
  clear hb1 hi1
  go_wp2_with fail
  refine (decodeString_any w.heap.size s d w1 HI.out HS.out h0 hlen).mono ?_
  rintro r w2 ⟨g, cap, rfl, hp, hg, hb⟩
  have HF : Hid (Dec d w (.returned (.tuple #[.slice (some ⟨g, 0, none⟩) d.length cap, .nilIface])) w2) := Lib.hid ⟨g, cap, rfl, hp, Nat.le_trans HB.out.size hg, HB.out.trans (hb.mono HB.out.size)⟩
  clear hp hb
  go_wp2_with fail
  go_ret2
  exact HF.out

set_option maxHeartbeats 4000000 in
set_option maxRecDepth 100000 in
theorem decode_q (s : ByteArray) (d : List UInt8) (w : World) (hs : s.data.toList = qenc d) (hlen : s.size ≤ 1099511627776) :
    Calls Tryd.prog 16 #[.int .u8 113, .string s] w (Dec d w) := by
  have HS := Lib.hid hs
  clear hs
  go_enter Tryd.func16, Tryd.ntmps16
  go_wp2_with fail
  refine (qDecode_any s d HS.out hlen w).mono ?_
  rintro r w2 ⟨g, cap, rfl, hp, hg, hb⟩
  have HF : Hid (Dec d w (.returned (.tuple #[.slice (some ⟨g, 0, none⟩) d.length cap, .nilIface])) w2) := Lib.hid ⟨g, cap, rfl, hp, hg, hb⟩
  clear hp hb
  go_wp2_with fail
  go_ret2
  exact HF.out

end Go.Proofs.YtedhgkddfgpfhaaDoor.Df
