/- The walk of bEncode: it writes the Base64 of its text, in words. -/
import Derived.Test.YtedhgkddfgpfhaaDoorEcl
import Derived.Test.YtedhgkddfgpfhaaDoorEwr
import Derived.Test.YtedhgkddfgpfhaaDoorG
namespace Go.Proofs.YtedhgkddfgpfhaaDoor.Be
open Go.RowKit Go.Proofs.YtedhgkddfgpfhaaDoor.B64 Go.Proofs.YtedhgkddfgpfhaaDoor.N Go.Proofs.YtedhgkddfgpfhaaDoor.En Go.Proofs.YtedhgkddfgpfhaaDoor.Bd Go.Proofs.YtedhgkddfgpfhaaDoor.Q Go.Proofs.YtedhgkddfgpfhaaDoor.E Go.Proofs.YtedhgkddfgpfhaaDoor.Ew Go.Proofs.YtedhgkddfgpfhaaDoor.G

/-- The encoder, empty, its encoding, and the builder. -/
structure Eb (B e g b : Nat) (l : List UInt8) (w : World) : Prop where
  ek : Ek e g b [] w
  enc : IsEnc g 64 w
  bd : Bd B b l w
  heb : e ≠ b
  hgb : g ≠ b
  hge : g ≠ e
  hBe : B ≤ e
  hB : B ≤ w.heap.size

theorem Eb.below {B e g b : Nat} {l : List UInt8} {w w' : World} (h : Eb B e g b l w) (hb : Below w.heap.size w w') : Eb B e g b l w' := by
  obtain ⟨c, fz, hc⟩ := h.ek.row
  exact ⟨h.ek.same (hb.block e (Array.getElem?_eq_some_iff.1 hc).1), (hb.block g h.enc.lt).trans h.enc, bd_below h.bd hb, h.heb, h.hgb, h.hge, h.hBe, Nat.le_trans h.hB hb.size⟩

theorem eb_mk {B b : Nat} {l : List UInt8} {w w1 w2 : World} (h : Bd B b l w) (hb1 : Below w.heap.size w w1) (hi1 : IsEnc w.heap.size 64 w1) (hb2 : Below w1.heap.size w1 w2) (he2 : Ek w1.heap.size w.heap.size b [] w2) (hBw : B ≤ w.heap.size) : Eb B w1.heap.size w.heap.size b l w2 := by
  have hlt := h.lt
  have h1 := hi1.lt
  have hs := hb1.size
  have hs2 := hb2.size
  exact ⟨he2, (hb2.block _ h1).trans hi1, bd_below (bd_below h hb1) hb2, by omega, by omega, by omega, by omega, by omega⟩

theorem close_any (B e g b : Nat) (l bf : List UInt8) (w : World) (hl : bf.length ≤ 2) (hE : Ek e g b bf w) (hI : IsEnc g 64 w) (hb : Bd B b l w) (heb : e ≠ b) (hgb : g ≠ b) (hge : g ≠ e) (hBe : B ≤ e) (hll : l.length ≤ 1099511627776) (hBw : B ≤ w.heap.size) :
    Calls Tryd.prog 95 #[.pointer (some ⟨e, 0, none⟩)] w fun r w' => r = .returned .nilIface ∧ Ew B e g b (l ++ b64 bf) [] w w' := by
  match bf, hl with
  | [], _ => exact close_nil B e g b l w hE hI hb
  | [x0], _ => exact close_1 B e g b l x0 w hE hI hb heb hgb hge hBe hll hBw
  | [x0, x1], _ => exact close_2 B e g b l x0 x1 w hE hI hb heb hgb hge hBe hll hBw

/-- '[]byte(s)'. -/
theorem conv (w : World) (s : ByteArray) : ∃ cap W, (convert 9 46 (.string s)).run Tryd.prog w = .ok (.slice (some ⟨w.heap.size, 0, none⟩) s.size cap) W ∧ s.size ≤ cap ∧ Hid (Pc w.heap.size 0 s.data.toList W) ∧ Hid (Below w.heap.size w W) ∧ Hid (W.heap.size = w.heap.size + 1) := by
  refine ⟨_, _, run_bytes_of_string (P := Tryd.prog) w 9 46 5 s Tryd.underlying9 Tryd.underlying46 Tryd.underlying5, grownCap_ge w s.size 0 5, Lib.hid ?_, Lib.hid ?_, Lib.hid ?_⟩
  · intro j x hx
    have hj := (List.getElem?_eq_some_iff.1 hx).1
    have hj' : j < s.data.size := by simpa using hj
    rw [Nat.zero_add]
    refine (World.cell?_alloc_mark w.drew _ 5 _ j).trans ?_
    rw [bytesRow_at s _ j hj']
    have e : s.data[j] = x := by
      have := (List.getElem?_eq_some_iff.1 hx).2
      simpa using this
    rw [e]
  · exact (Below.refl w.heap.size w).drew.alloc (Nat.le_refl _) _
  · simp

theorem notrow_new {B b : Nat} {l : List UInt8} {w W : World} (h : Bd B b l w) (hW : Below w.heap.size w W) : NotRow b W w.heap.size := by
  obtain ⟨p, v, _, _, hb, hown, _⟩ := h.open_
  refine ⟨by have := h.lt; omega, ?_⟩
  intro p' v' T fr hb' hv
  rw [hW.block b h.lt, hb] at hb'
  simp only [Option.some.injEq, Obj.cells.injEq, Array.mk.injEq, List.cons.injEq] at hb'
  obtain ⟨⟨_, rfl, _⟩, _⟩ := hb'
  have := (hown.lt _ hv).2
  omega

/-- Write of the bytes of a string, and what it leaves for Close. -/
theorem wr_call {B e g b pb cap : Nat} {l : List UInt8} {s : ByteArray} {w W : World} (hE : Eb B e g b l w) (hpb : pb = w.heap.size) (hcap : s.size ≤ cap) (hP : Pc w.heap.size 0 s.data.toList W) (hW : Below w.heap.size w W) (h0 : 0 < s.size) (h60 : s.size ≤ 60) (hll : l.length ≤ 1099511627776) :
    Calls Tryd.prog 96 #[.pointer (some ⟨e, 0, none⟩), .slice (some ⟨pb, 0, none⟩) s.size cap] W fun r w' => r = .returned (.tuple #[.int .i64 s.size, .nilIface]) ∧ Ew B e g b (l ++ b64 (s.data.toList.take (s.size / 3 * 3))) (s.data.toList.drop (s.size / 3 * 3)) w w' := by
  subst hpb
  have hE' := hE.below hW
  obtain ⟨c, fz, hc⟩ := hE.ek.row
  have hlt := (Array.getElem?_eq_some_iff.1 hc).1
  refine (write_any B e g b w.heap.size 0 s.size cap l s.data.toList W hE'.ek hE'.enc hE'.bd hE.heb hE.hgb hE.hge hE.hBe (by simp) h0 h60 hcap hP (by omega) (notrow_new hE.bd hW) hll hE'.hB).mono ?_
  rintro r w' ⟨rfl, h⟩
  exact ⟨rfl, h.ek, h.enc, h.bd, (hW.mono hE.hB).trans h.below⟩

theorem cl_call {B e g b : Nat} {l : List UInt8} {s : ByteArray} {w w1 : World} (hE : Eb B e g b l w) (hw : Ew B e g b (l ++ b64 (s.data.toList.take (s.size / 3 * 3))) (s.data.toList.drop (s.size / 3 * 3)) w w1) (h60 : s.size ≤ 60) (hll : l.length ≤ 549755813888) :
    Calls Tryd.prog 95 #[.pointer (some ⟨e, 0, none⟩)] w1 fun r w' => r = .returned .nilIface ∧ Eb B e g b (l ++ b64 s.data.toList) w' ∧ Below B w w' := by
  have hB1 : B ≤ w1.heap.size := Nat.le_trans hE.hB hw.below.size
  refine (close_any B e g b _ _ w1 (by rw [List.length_drop]; have : s.data.toList.length = s.size := by simp
                                       omega) hw.ek hw.enc hw.bd hE.heb hE.hgb hE.hge hE.hBe (by rw [List.length_append, b64_len, List.length_take]; omega) hB1).mono ?_
  rintro r w' ⟨rfl, h⟩
  refine ⟨rfl, ⟨h.ek, h.enc, ?_, hE.heb, hE.hgb, hE.hge, hE.hBe, Nat.le_trans hB1 h.below.size⟩, hw.below.trans h.below⟩
  have e1 : b64 (s.data.toList.take (s.size / 3 * 3)) ++ b64 (s.data.toList.drop (s.size / 3 * 3)) = b64 s.data.toList := by
    rw [← b64_append _ _ (by rw [List.length_take]; have : s.data.toList.length = s.size := by simp
                             omega), List.take_append_drop]
  have := h.bd
  rw [List.append_assoc, e1] at this
  exact this

set_option maxHeartbeats 8000000 in
set_option maxRecDepth 100000 in
theorem short_any (B b : Nat) (cs s : ByteArray) (w : World) (h : Bd B b (opn 98) w) (hcs : cs.data.toList = [117, 116, 102, 45, 56]) (hs : s.size ≤ 45) (h0 : 0 < s.size) (hBw : B ≤ w.heap.size) :
    Calls Tryd.prog 36 #[.int .u8 98, .pointer (some ⟨b, 0, none⟩), .string cs, .string s] w fun r w' => r = .returned (.tuple #[]) ∧ Bd B b (opn 98 ++ b64 s.data.toList) w' ∧ Below B w w' := by
  have HC := Lib.hid hcs
  have HB := Lib.hid h
  clear hcs h
  go_enter Tryd.func36, Tryd.ntmps36
  go_wp2_with fail
  refine (stdEnc w).mono ?_
  rintro r w1 ⟨rfl, hb1, hi1⟩
  go_wp2_with fail
  refine (newEncoder w.heap.size b w1).mono ?_
  rintro r w2 ⟨rfl, hb2, he2⟩
  have hE2 := eb_mk HB.out hb1 hi1 hb2 he2 hBw
  have HE2 := Lib.hid hE2
  have z2 := Nat.le_trans hb1.size hb2.size
  have B2 := Lib.hid (hb1.trans (hb2.mono hb1.size))
  clear hE2 hi1 he2 hb1 hb2
  go_wp2_with fail
  refine (isUTF8_any cs w2 HC.out).mono ?_
  rintro r w3 ⟨rfl, rfl⟩
  go_wp2_with fail
  refine (stdEnc w2).mono ?_
  rintro r w3 ⟨rfl, hb3, hi3⟩
  go_wp2_with fail
  obtain ⟨m, hm⟩ : ∃ m, m = (s.size + 2) / 3 * 4 := ⟨_, rfl⟩
  have hm63 : m ≤ 63 := by omega
  refine (encodedLen_call (n := s.size) hi3 (by omega) m hm w3 rfl).mono ?_
  clear hm
  rintro r w4 ⟨rfl, rfl⟩
  have b1 : decide ((m : Int) ≤ 63) = true := decide_eq_true (by omega)
  have HE3 := Lib.hid (HE2.out.below hb3)
  have B3 := Lib.hid (B2.out.trans (hb3.mono z2))
  clear hi3 hb3
  go_wp2_with fail
  obtain ⟨cap, W, hcv, hcap, HP, HW, _⟩ := conv w3 s
  rw [hcv]
  simp only [Result.andThen]
  rw [Oper.upon_value]
  go_wp2_with fail
  refine (wr_call HE3.out rfl hcap HP.out HW.out h0 (by omega) (by simp [opn])).mono ?_
  rintro r W1 ⟨rfl, hw1⟩
  have HW1 := Lib.hid hw1
  clear hw1
  go_wp2_with fail
  refine (cl_call HE3.out HW1.out (by omega) (by simp [opn])).mono ?_
  rintro r W2 ⟨rfl, hw2, hb5⟩
  have HF : Hid (Bd B b (opn 98 ++ b64 s.data.toList) W2 ∧ Below B w W2) := Lib.hid ⟨hw2.bd, (B3.out.mono hBw).trans hb5⟩
  clear hw2 hb5
  go_wp2_with fail
  refine bodyPost_ret (results_none rfl _ _ _) rfl ?_
  exact ⟨rfl, HF.out⟩

end Go.Proofs.YtedhgkddfgpfhaaDoor.Be
