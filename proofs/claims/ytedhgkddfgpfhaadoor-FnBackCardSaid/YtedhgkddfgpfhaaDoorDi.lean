/- The walk of DecodeHeader, over a text of encoded words. -/
import Derived.Test.YtedhgkddfgpfhaaDoorDg
import Derived.Test.YtedhgkddfgpfhaaDoorDh
import Derived.Deep.DeepCutAuto
namespace Go.Proofs.YtedhgkddfgpfhaaDoor.Di
open Go.RowKit Go.Proofs.YtedhgkddfgpfhaaDoor.A Go.Proofs.YtedhgkddfgpfhaaDoor.B64 Go.Proofs.YtedhgkddfgpfhaaDoor.Bd Go.Proofs.YtedhgkddfgpfhaaDoor.Ew Go.Proofs.YtedhgkddfgpfhaaDoor.Q Go.Proofs.YtedhgkddfgpfhaaDoor.G Go.Proofs.YtedhgkddfgpfhaaDoor.Dq Go.Proofs.YtedhgkddfgpfhaaDoor.Dg Go.Proofs.YtedhgkddfgpfhaaDoor.Dh

theorem pc_below {g : Nat} {d : List UInt8} {w w' : World} (h : Pc g 0 d w) (hb : Below w.heap.size w w') : Pc g 0 d w' := by
  intro j x hx
  have h1 := h j x hx
  have hlt : g < w.heap.size := by
    rcases Nat.lt_or_ge g w.heap.size with h2 | h2
    · exact h2
    · unfold World.cell? at h1; rw [Array.getElem?_eq_none h2] at h1; cases h1
  unfold World.cell? at *
  rw [hb.block g hlt]; exact h1

def sizeS : Value → Nat | .string s => s.size | _ => 0

/-- What decode answers at the contents of a word. -/
def DecOk (e : UInt8) (enc : List UInt8 → List UInt8) : Prop := ∀ (s : ByteArray) (d : List UInt8) (w : World), s.data.toList = enc d → d ≠ [] → s.size ≤ 1099511627776 → Calls Tryd.prog 16 #[.int .u8 e.toNat, .string s] w (Dec d w)

structure Lp (e : UInt8) (enc : List UInt8 → List UInt8) (s : List UInt8) (h : ByteArray) (st : Nat) (ds : List (List UInt8)) (l : List UInt8) : Prop where
  eq : h.data.toList = pend e enc st ds
  sum : l ++ ds.flatten = s
  ne : ∀ x ∈ ds, x ≠ []

theorem lp_len {e : UInt8} {enc : List UInt8 → List UInt8} {s : List UInt8} {h : ByteArray} {st : Nat} {ds : List (List UInt8)} {l : List UInt8} (H : Lp e enc s h st ds l) : l.length ≤ s.length := by rw [← H.sum, List.length_append]; omega

structure Wl (b : Nat) (l : List UInt8) (w wr : World) : Prop where
  bd : Bd w.heap.size b l wr
  below : Below w.heap.size w wr

theorem lp_wd {e : UInt8} {enc : List UInt8 → List UInt8} {s : List UInt8} {h : ByteArray} {st : Nat} {d : List UInt8} {r : List (List UInt8)} {l : List UInt8} (hno : ∀ d, ∀ x ∈ enc d, x ≠ 63) (H : Lp e enc s h st (d :: r) l) (h1 : st ≤ 1) : Wd e st (enc d).length (enc d) (pend e enc 1 r) h :=
  ⟨h1, by rw [H.eq, pend, text_pend], rfl, hno d⟩

set_option maxHeartbeats 8000000 in
set_option maxRecDepth 100000 in
theorem words_any (e : UInt8) (enc : List UInt8 → List UInt8) (hno : ∀ d, ∀ x ∈ enc d, x ≠ 63) (hdec : DecOk e enc) (pd : Value) (t : ByteArray) (s : List UInt8) (w : World) (hS : Said e enc s t.data.toList) (hlen : s.length ≤ 17179869184) :
    Calls Tryd.prog 10 #[pd, .string t] w fun r w' => r = .returned (.tuple #[.string ⟨s.toArray⟩, .nilIface]) ∧ Below w.heap.size w w' := by
  obtain ⟨d0, r0, ht, hsum, hne, hts⟩ := hS
  have htz : t.size ≤ 1099511627776 := by
    have h1 : t.data.toList.length = t.size := by simp
    omega
  have HN := Lib.hid hno
  have HD := Lib.hid hdec
  have L0 : Lp e enc s t 0 (d0 :: r0) [] := ⟨by rw [ht]; simp [pend], by simpa using hsum, hne⟩
  have W0 := lp_wd hno L0 (Nat.zero_le _)
  have HW0 := Lib.hid W0.start
  have HL0 := Lib.hid L0
  clear ht hsum hne hts hno hdec L0
  have hz2 : 2 ≤ t.size := by have := W0.size; omega
  clear W0
  go_enter Tryd.func10, Tryd.ntmps10
  go_wp2_with fail
  refine (zzIndex_at t ⟨#[61, 63]⟩ w htz (by decide) 0 (by show 0 + 2 ≤ t.size; omega) HW0.out.1 HW0.out.2).mono ?_
  rintro r w1 ⟨rfl, rfl⟩
  go_wp2_with fail
  refine (WriteString_any w.heap.size w.heap.size [] ByteArray.empty _ (fresh w) (by decide) (by simp)).mono ?_
  rintro r w1 ⟨rfl, hb1, k1⟩
  have HW1 : Hid (Wl w.heap.size [] w w1) := Lib.hid ⟨hb1, ((Below.refl _ w).alloc (Nat.le_refl _) _).trans k1.below⟩
  clear hb1 k1
  go_wp2_with fail
  go_loopw [1, 8] (fun hv bv wr => ∃ (h : ByteArray) (st : Nat) (bw : Bool) (ds : List (List UInt8)) (l : List UInt8), hv = .string h ∧ bv = .bool bw ∧ Hid (bw = decide (st = 1)) ∧ st ≤ 1 ∧ h.size ≤ 1099511627776 ∧ Hid (Lp e enc s h st ds l) ∧ Hid (Wl w.heap.size l w wr)) (fun hv _ _ => sizeS hv)
  case atStart =>
    exact ⟨t, 0, false, d0 :: r0, [], rfl, rfl, Lib.hid rfl, Nat.zero_le _, htz, HL0, HW1⟩
  case round =>
    obtain ⟨h, st, bw, ds, l, rfl, rfl, Hbw, hst, hz, HL, HW⟩ := hrel
    cases ds with
    | nil =>
      have hh : h.size = 0 := by
        have := congrArg List.length HL.out.eq
        simpa [pend] using this
      have hl : l = s := by have := HL.out.sum; simpa using this
      subst hl
      have HB := Lib.hid HW.out.bd
      have HW' := Lib.hid HW.out.below
      go_wp2_with fail
      refine (zzIndex_none h ⟨#[61, 63]⟩ wr hz (by decide) (by intro i hi; exfalso; have : (⟨#[61, 63]⟩ : ByteArray).size = 2 := rfl; omega)).mono ?_
      rintro r w2 ⟨rfl, rfl⟩
      go_wp2_with fail
      refine (Tryd.Builder_String_any_k _ _ l wr HB.out HW'.out.size).mono ?_
      rintro r w2 ⟨rfl, _, b2, _⟩
      have HF := Lib.hid (HW'.out.trans b2)
      clear b2
      go_wp2_with fail
      go_ret2
      exact ⟨rfl, HF.out⟩
    | cons d r =>
      have W := lp_wd HN.out HL.out hst
      have hsz : st + 10 + (enc d).length + 2 ≤ h.size := by have := W.size; omega
      generalize hn : (enc d).length = n at hsz W
      have HWd := Lib.hid W
      clear W hn
      go_wp2_with fail
      refine (zzIndex_at h ⟨#[61, 63]⟩ wr hz (by decide) st (by show st + 2 ≤ h.size; omega) HWd.out.start.1 HWd.out.start.2).mono ?_
      rintro r w2 ⟨rfl, rfl⟩
      go_wp2_with fail
      have z1 : (h.extract (st + 2) h.size).size = h.size - (st + 2) := by simp
      refine (zzIndex_at (h.extract (st + 2) h.size) ⟨#[63]⟩ wr (by omega) (by decide) 5 (by show 5 + 1 ≤ _; omega) HWd.out.quest.1 HWd.out.quest.2).mono ?_
      rintro r w2 ⟨rfl, rfl⟩
      have hi9 : st + 2 + 6 + 1 < h.size := by omega
      have hi8 : st + 2 + 6 < h.size := by omega
      have q9 : h[st + 2 + 6 + 1] = 63 := HWd.out.at 9 63 rfl (by omega)
      have q8 : h[st + 2 + 6] = e := HWd.out.at 8 e rfl (by omega)
      have b9 : ((h[st + 2 + 6 + 1].toNat : Int) != 63) = false := by rw [q9]; rfl
      have Q8 : Hid (h[st + 2 + 6].toNat = e.toNat) := Lib.hid (congrArg UInt8.toNat q8)
      clear q9 q8
      go_wp2_with fail
      have z2 : (h.extract (st + 2 + 6 + 1 + 1) h.size).size = h.size - (st + 10) := by simp
      refine (zzIndex_at (h.extract (st + 2 + 6 + 1 + 1) h.size) ⟨#[63, 61]⟩ wr (by omega) (by decide) n (by show n + 2 ≤ _; omega) HWd.out.fin.1 HWd.out.fin.2).mono ?_
      rintro r w2 ⟨rfl, rfl⟩
      go_wp2_with fail
      have z3 : (h.extract (st + 2 + 6 + 1 + 1) (st + 2 + 6 + 1 + 1 + n)).size ≤ 1099511627776 := by rw [ByteArray.size_extract]; omega
      have hc : Calls Tryd.prog 16 #[.int .u8 h[st + 2 + 6].toNat, .string (h.extract (st + 2 + 6 + 1 + 1) (st + 2 + 6 + 1 + 1 + n))] wr (Dec d wr) := by
        rw [Q8.out]; exact HD.out _ d wr HWd.out.content (HL.out.ne d List.mem_cons_self) z3
      refine hc.mono ?_
      clear hc
      rintro r2 w2 ⟨g, cap, rfl, hp, hg, hb⟩
      have HW2 : Hid (Wl w.heap.size l w w2) := Lib.hid ⟨bd_below HW.out.bd hb, HW.out.below.trans (hb.mono HW.out.below.size)⟩
      have hgb : g ≠ w.heap.size := by have := HW.out.bd.lt; omega
      have HP := Lib.hid hp
      clear hp hb
      go_upto_region 29 with fail
      go_cut [112] (fun c wx => c = .bool false ∧ Hid (Wl w.heap.size l w wx) ∧ Hid (Pc g 0 d wx))
      case first =>
        cases bw with
        | true =>
          have h1 : st = 1 := by have := Hbw.out; simpa using this.symm
          have b1 : decide ((0 : Int) < (st : Int)) = true := decide_eq_true (by omega)
          have b2 : decide (0 < st) = true := decide_eq_true (by omega)
          have b3 : (0 : Int) < (st : Int) := by omega
          have b4 : 0 < st := by omega
          have HA := Lib.hid (HWd.out.ahead h1)
          clear h1
          go_wp2_with fail
          refine (nonWhite_any _ _ HA.out).mono ?_
          rintro r3 w3 ⟨rfl, hb3⟩
          have HW3 : Hid (Wl w.heap.size l w w3) := Lib.hid ⟨bd_below HW2.out.bd hb3, HW2.out.below.trans (hb3.mono HW2.out.below.size)⟩
          have HP3 : Hid (Pc g 0 d w3) := Lib.hid (pc_below HP.out hb3)
          clear hb3
          go_wp2_with fail
          go_meet
          exact ⟨rfl, HW3, HP3⟩
        | false =>
          have h1 : st = 0 := by have := Hbw.out; have h2 : st ≠ 1 := by simpa using this.symm
                                 omega
          have b1 : decide ((0 : Int) < (st : Int)) = false := decide_eq_false (by omega)
          have b2 : decide (0 < st) = false := decide_eq_false (by omega)
          clear h1
          go_wp2_with fail
          go_meet
          exact ⟨rfl, HW2, HP⟩
      case rest =>
        obtain ⟨rfl, HW3, HP3⟩ := hcut
        clear HW2 HP
        have hll : l.length + d.length ≤ s.length := by
          have := HL.out.sum
          rw [← this]; simp
        go_wp2_with fail
        refine (convert_any pd w.heap.size w.heap.size g d.length cap l d (h.extract (st + 2) (st + 2 + 5)) wc HW3.out.bd HWd.out.charset rfl HP3.out hgb (by omega) HW3.out.below.size).mono ?_
        rintro r4 w4 ⟨rfl, hb4, k4⟩
        have HW4 : Hid (Wl w.heap.size (l ++ d) w w4) := Lib.hid ⟨hb4, HW3.out.below.trans k4⟩
        clear hb4 k4
        have HL4 : Hid (Lp e enc s (h.extract (st + 2 + 6 + 1 + 1 + n + 2) h.size) 1 r (l ++ d)) := Lib.hid ⟨HWd.out.tail, by have := HL.out.sum; rw [← this]; simp, fun x hx => HL.out.ne x (List.mem_cons_of_mem _ hx)⟩
        have z4 : (h.extract (st + 2 + 6 + 1 + 1 + n + 2) h.size).size = h.size - (st + 10 + n + 2) := by rw [ByteArray.size_extract]; omega
        have HZ4 := Lib.hid z4
        clear z4
        go_wp2_with fail
        refine ⟨⟨_, 1, true, r, l ++ d, rfl, rfl, Lib.hid rfl, Nat.le_refl _, ?_, HL4, HW4⟩, ?_⟩
        · rw [HZ4.out]; omega
        · show (h.extract (st + 2 + 6 + 1 + 1 + n + 2) h.size).size < h.size
          rw [HZ4.out]; omega

end Go.Proofs.YtedhgkddfgpfhaaDoor.Di
