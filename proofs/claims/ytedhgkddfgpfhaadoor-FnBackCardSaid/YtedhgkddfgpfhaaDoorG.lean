/- The walk of qEncode: it writes the Q encoding of its text, in words. -/
import Derived.Test.YtedhgkddfgpfhaaDoorF
namespace Go.Proofs.YtedhgkddfgpfhaaDoor.G
open Go.RowKit Go.Proofs.YtedhgkddfgpfhaaDoor.Bd Go.Proofs.YtedhgkddfgpfhaaDoor.Q Go.Proofs.YtedhgkddfgpfhaaDoor.E

theorem decN_le4 (n b0 b1 b2 b3 : Nat) : (Lib.decodeN n b0 b1 b2 b3).2 ≤ 4 := by
  unfold Lib.decodeN
  repeat' split
  all_goals simp
theorem decN_le_n (n b0 b1 b2 b3 : Nat) (hn : 1 ≤ n) : (Lib.decodeN n b0 b1 b2 b3).2 ≤ n := by
  unfold Lib.decodeN
  repeat' split
  all_goals (simp only; omega)

theorem tabs_lt {w : World} (h : Lib.Utf8Tabs 0 1 w) : 2 ≤ w.heap.size := by
  have h1 := (h.2 0 (by omega)).1
  simp only [World.cell?] at h1
  split at h1
  · rename_i e; have := (Array.getElem?_eq_some_iff.1 e).1; omega
  · cases h1
theorem tabs_below {B : Nat} {w w' : World} (h : Lib.Utf8Tabs 0 1 w) (hb : Below B w w') (hB : 2 ≤ B) : Lib.Utf8Tabs 0 1 w' :=
  ⟨fun c hc => (hb.cell (p := ⟨0, c, none⟩) (by show 0 < B; omega)).trans (h.1 c hc), fun i hi => ⟨(hb.cell (p := ⟨1, 2 * i, none⟩) (by show 1 < B; omega)).trans (h.2 i hi).1, (hb.cell (p := ⟨1, 2 * i + 1, none⟩) (by show 1 < B; omega)).trans (h.2 i hi).2⟩⟩

/-- What a call of the decoder leaves. -/
def Dec (s : ByteArray) (k : Nat) (w : World) (e : Ending) (w' : World) : Prop :=
  ∃ r n : Nat, e = .returned (.tuple #[.int .i32 r, .int .i64 n]) ∧ 1 ≤ n ∧ n ≤ 4 ∧ k + n ≤ s.size ∧ Below w.heap.size w w'

theorem decode_any (s : ByteArray) (k : Nat) (hk : k < s.size) (w : World) (hT : Lib.Utf8Tabs 0 1 w) :
    Calls Tryd.prog 44 #[.string (s.extract k s.size)] w (Dec s k w) := by
  refine (Tryd.utf8_DecodeRuneInString (s.extract k s.size) w hT).mono ?_
  rintro e w' ⟨rfl, hb⟩
  have hsz : (s.extract k s.size).size = s.size - k := by simp
  refine ⟨_, _, rfl, ?_, ?_, ?_, hb⟩
  · unfold Lib.decodeGo; rw [if_neg (by omega), Lib.decode_at]; exact Lib.decodeN_ge1 _ _ _ _ _
  · unfold Lib.decodeGo; rw [if_neg (by omega), Lib.decode_at]; exact decN_le4 _ _ _ _ _
  · have : (Lib.decodeGo (s.extract k s.size)).2 ≤ (s.extract k s.size).size := by
      unfold Lib.decodeGo; rw [if_neg (by omega), Lib.decode_at]; exact decN_le_n _ _ _ _ _ (by omega)
    omega

theorem bd_below {B b : Nat} {l : List UInt8} {w w' : World} (h : Bd B b l w) (hb : Below w.heap.size w w') : Bd B b l w' :=
  h.kept fun k o hk _ => by rw [hb.block k (Array.getElem?_eq_some_iff.1 hk).1]; exact hk
theorem wk_below {B b : Nat} {w w' : World} (hb : Below w.heap.size w w') (hB : B ≤ w.heap.size) : Wk B b w w' :=
  ⟨hb.mono hB, fun k o hk _ _ => by rw [hb.block k (Array.getElem?_eq_some_iff.1 hk).1]; exact hk⟩

theorem ext_data (s : ByteArray) (k n : Nat) : (s.extract k (k + n)).data.toList = (s.data.toList.drop k).take n := by
  rw [Lib.extract_data, Nat.add_sub_cancel_left]

/-- The state of the walk at byte k. -/
structure St (B b : Nat) (s : ByteArray) (w : World) (k cur : Nat) (wr : World) : Prop where
  out : ∃ l, QI s.data.toList k cur l ∧ Bd B b l wr
  wk : Wk B b w wr

theorem St.split {B b : Nat} {s : ByteArray} {w wr w1 w2 : World} {k cur : Nat} {l : List UInt8} (hq : QI s.data.toList k cur l) (hw : Wk B b w wr) (hc : 0 < cur) (k1 : Wk B b wr w1) (k2 : Wk B b w1 w2) (n cur' : Nat) (hn : k + n ≤ s.size) (h1 : 1 ≤ n)
    (hb : Bd B b (l ++ [63, 61, 32] ++ opn (UInt8.ofNat 113) ++ qenc (s.extract k (k + n)).data.toList) w2) : St B b s w (k + n) cur' w2 :=
  ⟨⟨_, QI_split hq hc n cur' (by simpa using hn) h1, by rw [← ext_data]; exact hb⟩, (hw.trans k1).trans k2⟩
theorem St.write {B b : Nat} {s : ByteArray} {w wr w2 : World} {k cur : Nat} {l : List UInt8} (hq : QI s.data.toList k cur l) (hw : Wk B b w wr) (k2 : Wk B b wr w2) (n cur' : Nat) (hn : k + n ≤ s.size) (h1 : 1 ≤ n)
    (hb : Bd B b (l ++ qenc (s.extract k (k + n)).data.toList) w2) : St B b s w (k + n) cur' w2 :=
  ⟨⟨_, QI_write hq n cur' (by simpa using hn) h1, by rw [← ext_data]; exact hb⟩, hw.trans k2⟩

set_option maxHeartbeats 16000000 in
set_option maxRecDepth 100000 in
theorem qEncode_any (B b : Nat) (cs s : ByteArray) (w : World) (h : Bd B b (opn 113) w) (hcs : cs.data.toList = [117, 116, 102, 45, 56]) (hs : s.size ≤ 17179869184) (h0 : 0 < s.size) (hBw : B ≤ w.heap.size) (hT : Lib.Utf8Tabs 0 1 w) (hB2 : 2 ≤ B) :
    Calls Tryd.prog 37 #[.int .u8 113, .pointer (some ⟨b, 0, none⟩), .string cs, .string s] w fun r w' => r = .returned (.tuple #[]) ∧ St B b s w s.size 0 w' := by
  have HC := Lib.hid hcs
  have HT := Lib.hid hT
  have Hst := Lib.hid (St.mk (B := B) (b := b) (s := s) ⟨_, QI_zero s.data.toList, h⟩ (Wk.refl B b w))
  clear hcs hT h
  go_enter Tryd.func37, Tryd.ntmps37
  go_wp2_with fail
  refine (isUTF8_any cs _ HC.out).mono ?_
  rintro r w1 ⟨rfl, rfl⟩
  go_wp2_with fail
  go_loopw [8, 10] (fun c i wr => ∃ k cur : Nat, k ≤ s.size ∧ cur ≤ 63 ∧ i = .int .i64 k ∧ c = .int .i64 cur ∧ Hid (St B b s w k cur wr)) (fun _ i _ => s.size - (intOf i).toNat)
  case atStart => exact ⟨0, 0, Nat.zero_le _, by omega, rfl, rfl, Hst⟩
  case round =>
    obtain ⟨k, cur, hk, hcur, rfl, rfl, HS⟩ := hrel
    by_cases hlt : k < s.size
    · have bd := s[k].toNat_lt
      have hz : w.heap.size ≤ wr.heap.size := HS.out.wk.size
      obtain ⟨⟨l, hq, hb⟩, hw⟩ := HS.out
      have hql := QI_len hq
      have HQ := Lib.hid hq
      clear hq HS Hst
      have HT1 := Lib.hid (tabs_below HT.out hw.below hB2)
      by_cases hp : s[k].toNat = 32 ∨ plainQ s[k] = true
      · have hp2 : 32 ≤ s[k].toNat ∧ s[k].toNat ≤ 126 ∧ s[k].toNat ≠ 61 ∧ s[k].toNat ≠ 63 ∧ s[k].toNat ≠ 95 := by
          rcases hp with hp | hp
          · omega
          · unfold plainQ at hp; simp at hp; omega
        obtain ⟨p1, p2, p3, p4, p5⟩ := hp2
        clear hp
        have b2 : decide ((32 : Int) ≤ s[k].toNat) = true := decide_eq_true (by omega)
        have b3 : decide ((s[k].toNat : Int) ≤ 126) = true := decide_eq_true (by omega)
        have b4 : ((s[k].toNat : Int) != 61) = true := bne_iff_ne.mpr (by omega)
        have b5 : ((s[k].toNat : Int) != 63) = true := bne_iff_ne.mpr (by omega)
        have b6 : ((s[k].toNat : Int) != 95) = true := bne_iff_ne.mpr (by omega)
        clear p1 p2 p3 p4 p5
        by_cases hsp : 63 < cur + 1
        · have bs : decide ((63 : Int) < (cur : Int) + 1) = true := decide_eq_true (by omega)
          have hc0 : 0 < cur := by omega
          clear hsp
          go_wp2_with fail
          refine (splitWord_any B b l 113 (by omega) cs _ hb HC.out (by omega) (by omega)).mono ?_
          rintro r w2 ⟨rfl, h2, k2⟩
          have z2 := k2.size
          go_wp2_with fail
          refine (F.writeQ_any B b _ _ _ h2 (by simp; omega) (by simp [opn]; omega) (by omega)).mono ?_
          rintro r w3 ⟨rfl, h3, k3⟩
          have HN := Lib.hid (St.split HQ.out hw hc0 k2 k3 1 1 (by omega) (by omega) h3)
          go_wp2_with fail
          go_roundw
          case rel => exact ⟨k + 1, 1, by omega, by omega, by go_num, by go_num, HN⟩
          case measure => simp [intOf]; omega
        · have bs : decide ((63 : Int) < (cur : Int) + 1) = false := decide_eq_false (by omega)
          go_wp2_with fail
          refine (F.writeQ_any B b l _ _ hb (by simp; omega) (by omega) (by omega)).mono ?_
          rintro r w3 ⟨rfl, h3, k3⟩
          have HN := Lib.hid (St.write HQ.out hw k3 1 (cur + 1) (by omega) (by omega) h3)
          go_wp2_with fail
          go_roundw
          case rel => exact ⟨k + 1, cur + 1, by omega, by omega, by go_num, by go_num, HN⟩
          case measure => simp [intOf]; omega
      · have hc : s[k].toNat < 32 ∨ (32 ≤ s[k].toNat ∧ 126 < s[k].toNat) ∨ s[k].toNat = 61 ∨ s[k].toNat = 63 ∨ s[k].toNat = 95 := by
          unfold plainQ at hp; simp at hp; omega
        clear hp
        rcases hc with hc | hc | hc | hc | hc
        · have b2 : decide ((32 : Int) ≤ s[k].toNat) = false := decide_eq_false (by omega)
          clear hc
          go_wp2_with fail
          refine (decode_any s k hlt _ HT1.out).mono ?_
          rintro r w1 ⟨q, n, rfl, n1, n4, nk, hb1⟩
          have hz1 := hb1.size
          have hbx := bd_below hb hb1
          have hwx := hw.trans (wk_below (b := b) hb1 (by omega))
          clear hb hw
          by_cases hsp : 63 < cur + (3 * n)
          · have bs : decide ((63 : Int) < (cur : Int) + 3 * (n : Int)) = true := decide_eq_true (by omega)
            have hc0 : 0 < cur := by omega
            clear hsp
            go_wp2_with fail
            refine (splitWord_any B b l 113 (by omega) cs _ hbx HC.out (by omega) (by omega)).mono ?_
            rintro r w2 ⟨rfl, h2, k2⟩
            have z2 := k2.size
            go_wp2_with fail
            refine (F.writeQ_any B b _ _ _ h2 (by simp; omega) (by simp [opn]; omega) (by omega)).mono ?_
            rintro r w3 ⟨rfl, h3, k3⟩
            have HN := Lib.hid (St.split HQ.out hwx hc0 k2 k3 n (3 * n) (by omega) (by omega) h3)
            go_wp2_with fail
            go_roundw
            case rel => exact ⟨k + n, (3 * n), by omega, by omega, by go_num, by go_num, HN⟩
            case measure => simp [intOf]; omega
          · have bs : decide ((63 : Int) < (cur : Int) + 3 * (n : Int)) = false := decide_eq_false (by omega)
            go_wp2_with fail
            refine (F.writeQ_any B b l _ _ hbx (by simp; omega) (by omega) (by omega)).mono ?_
            rintro r w3 ⟨rfl, h3, k3⟩
            have HN := Lib.hid (St.write HQ.out hwx k3 n (cur + (3 * n)) (by omega) (by omega) h3)
            go_wp2_with fail
            go_roundw
            case rel => exact ⟨k + n, cur + (3 * n), by omega, by omega, by go_num, by go_num, HN⟩
            case measure => simp [intOf]; omega
        · have b2 : decide ((32 : Int) ≤ s[k].toNat) = true := decide_eq_true (by omega)
          have b3 : decide ((s[k].toNat : Int) ≤ 126) = false := decide_eq_false (by omega)
          clear hc
          go_wp2_with fail
          refine (decode_any s k hlt _ HT1.out).mono ?_
          rintro r w1 ⟨q, n, rfl, n1, n4, nk, hb1⟩
          have hz1 := hb1.size
          have hbx := bd_below hb hb1
          have hwx := hw.trans (wk_below (b := b) hb1 (by omega))
          clear hb hw
          by_cases hsp : 63 < cur + (3 * n)
          · have bs : decide ((63 : Int) < (cur : Int) + 3 * (n : Int)) = true := decide_eq_true (by omega)
            have hc0 : 0 < cur := by omega
            clear hsp
            go_wp2_with fail
            refine (splitWord_any B b l 113 (by omega) cs _ hbx HC.out (by omega) (by omega)).mono ?_
            rintro r w2 ⟨rfl, h2, k2⟩
            have z2 := k2.size
            go_wp2_with fail
            refine (F.writeQ_any B b _ _ _ h2 (by simp; omega) (by simp [opn]; omega) (by omega)).mono ?_
            rintro r w3 ⟨rfl, h3, k3⟩
            have HN := Lib.hid (St.split HQ.out hwx hc0 k2 k3 n (3 * n) (by omega) (by omega) h3)
            go_wp2_with fail
            go_roundw
            case rel => exact ⟨k + n, (3 * n), by omega, by omega, by go_num, by go_num, HN⟩
            case measure => simp [intOf]; omega
          · have bs : decide ((63 : Int) < (cur : Int) + 3 * (n : Int)) = false := decide_eq_false (by omega)
            go_wp2_with fail
            refine (F.writeQ_any B b l _ _ hbx (by simp; omega) (by omega) (by omega)).mono ?_
            rintro r w3 ⟨rfl, h3, k3⟩
            have HN := Lib.hid (St.write HQ.out hwx k3 n (cur + (3 * n)) (by omega) (by omega) h3)
            go_wp2_with fail
            go_roundw
            case rel => exact ⟨k + n, cur + (3 * n), by omega, by omega, by go_num, by go_num, HN⟩
            case measure => simp [intOf]; omega
        · have b2 : decide ((32 : Int) ≤ s[k].toNat) = true := decide_eq_true (by omega)
          have b3 : decide ((s[k].toNat : Int) ≤ 126) = true := decide_eq_true (by omega)
          have b4 : ((s[k].toNat : Int) != 61) = false := bne_eq_false_iff_eq.mpr (by omega)
          clear hc
          go_wp2_with fail
          refine (decode_any s k hlt _ HT1.out).mono ?_
          rintro r w1 ⟨q, n, rfl, n1, n4, nk, hb1⟩
          have hz1 := hb1.size
          have hbx := bd_below hb hb1
          have hwx := hw.trans (wk_below (b := b) hb1 (by omega))
          clear hb hw
          by_cases hsp : 63 < cur + (3 * n)
          · have bs : decide ((63 : Int) < (cur : Int) + 3 * (n : Int)) = true := decide_eq_true (by omega)
            have hc0 : 0 < cur := by omega
            clear hsp
            go_wp2_with fail
            refine (splitWord_any B b l 113 (by omega) cs _ hbx HC.out (by omega) (by omega)).mono ?_
            rintro r w2 ⟨rfl, h2, k2⟩
            have z2 := k2.size
            go_wp2_with fail
            refine (F.writeQ_any B b _ _ _ h2 (by simp; omega) (by simp [opn]; omega) (by omega)).mono ?_
            rintro r w3 ⟨rfl, h3, k3⟩
            have HN := Lib.hid (St.split HQ.out hwx hc0 k2 k3 n (3 * n) (by omega) (by omega) h3)
            go_wp2_with fail
            go_roundw
            case rel => exact ⟨k + n, (3 * n), by omega, by omega, by go_num, by go_num, HN⟩
            case measure => simp [intOf]; omega
          · have bs : decide ((63 : Int) < (cur : Int) + 3 * (n : Int)) = false := decide_eq_false (by omega)
            go_wp2_with fail
            refine (F.writeQ_any B b l _ _ hbx (by simp; omega) (by omega) (by omega)).mono ?_
            rintro r w3 ⟨rfl, h3, k3⟩
            have HN := Lib.hid (St.write HQ.out hwx k3 n (cur + (3 * n)) (by omega) (by omega) h3)
            go_wp2_with fail
            go_roundw
            case rel => exact ⟨k + n, cur + (3 * n), by omega, by omega, by go_num, by go_num, HN⟩
            case measure => simp [intOf]; omega
        · have b2 : decide ((32 : Int) ≤ s[k].toNat) = true := decide_eq_true (by omega)
          have b3 : decide ((s[k].toNat : Int) ≤ 126) = true := decide_eq_true (by omega)
          have b4 : ((s[k].toNat : Int) != 61) = true := bne_iff_ne.mpr (by omega)
          have b5 : ((s[k].toNat : Int) != 63) = false := bne_eq_false_iff_eq.mpr (by omega)
          clear hc
          go_wp2_with fail
          refine (decode_any s k hlt _ HT1.out).mono ?_
          rintro r w1 ⟨q, n, rfl, n1, n4, nk, hb1⟩
          have hz1 := hb1.size
          have hbx := bd_below hb hb1
          have hwx := hw.trans (wk_below (b := b) hb1 (by omega))
          clear hb hw
          by_cases hsp : 63 < cur + (3 * n)
          · have bs : decide ((63 : Int) < (cur : Int) + 3 * (n : Int)) = true := decide_eq_true (by omega)
            have hc0 : 0 < cur := by omega
            clear hsp
            go_wp2_with fail
            refine (splitWord_any B b l 113 (by omega) cs _ hbx HC.out (by omega) (by omega)).mono ?_
            rintro r w2 ⟨rfl, h2, k2⟩
            have z2 := k2.size
            go_wp2_with fail
            refine (F.writeQ_any B b _ _ _ h2 (by simp; omega) (by simp [opn]; omega) (by omega)).mono ?_
            rintro r w3 ⟨rfl, h3, k3⟩
            have HN := Lib.hid (St.split HQ.out hwx hc0 k2 k3 n (3 * n) (by omega) (by omega) h3)
            go_wp2_with fail
            go_roundw
            case rel => exact ⟨k + n, (3 * n), by omega, by omega, by go_num, by go_num, HN⟩
            case measure => simp [intOf]; omega
          · have bs : decide ((63 : Int) < (cur : Int) + 3 * (n : Int)) = false := decide_eq_false (by omega)
            go_wp2_with fail
            refine (F.writeQ_any B b l _ _ hbx (by simp; omega) (by omega) (by omega)).mono ?_
            rintro r w3 ⟨rfl, h3, k3⟩
            have HN := Lib.hid (St.write HQ.out hwx k3 n (cur + (3 * n)) (by omega) (by omega) h3)
            go_wp2_with fail
            go_roundw
            case rel => exact ⟨k + n, cur + (3 * n), by omega, by omega, by go_num, by go_num, HN⟩
            case measure => simp [intOf]; omega
        · have b2 : decide ((32 : Int) ≤ s[k].toNat) = true := decide_eq_true (by omega)
          have b3 : decide ((s[k].toNat : Int) ≤ 126) = true := decide_eq_true (by omega)
          have b4 : ((s[k].toNat : Int) != 61) = true := bne_iff_ne.mpr (by omega)
          have b5 : ((s[k].toNat : Int) != 63) = true := bne_iff_ne.mpr (by omega)
          have b6 : ((s[k].toNat : Int) != 95) = false := bne_eq_false_iff_eq.mpr (by omega)
          clear hc
          go_wp2_with fail
          refine (decode_any s k hlt _ HT1.out).mono ?_
          rintro r w1 ⟨q, n, rfl, n1, n4, nk, hb1⟩
          have hz1 := hb1.size
          have hbx := bd_below hb hb1
          have hwx := hw.trans (wk_below (b := b) hb1 (by omega))
          clear hb hw
          by_cases hsp : 63 < cur + (3 * n)
          · have bs : decide ((63 : Int) < (cur : Int) + 3 * (n : Int)) = true := decide_eq_true (by omega)
            have hc0 : 0 < cur := by omega
            clear hsp
            go_wp2_with fail
            refine (splitWord_any B b l 113 (by omega) cs _ hbx HC.out (by omega) (by omega)).mono ?_
            rintro r w2 ⟨rfl, h2, k2⟩
            have z2 := k2.size
            go_wp2_with fail
            refine (F.writeQ_any B b _ _ _ h2 (by simp; omega) (by simp [opn]; omega) (by omega)).mono ?_
            rintro r w3 ⟨rfl, h3, k3⟩
            have HN := Lib.hid (St.split HQ.out hwx hc0 k2 k3 n (3 * n) (by omega) (by omega) h3)
            go_wp2_with fail
            go_roundw
            case rel => exact ⟨k + n, (3 * n), by omega, by omega, by go_num, by go_num, HN⟩
            case measure => simp [intOf]; omega
          · have bs : decide ((63 : Int) < (cur : Int) + 3 * (n : Int)) = false := decide_eq_false (by omega)
            go_wp2_with fail
            refine (F.writeQ_any B b l _ _ hbx (by simp; omega) (by omega) (by omega)).mono ?_
            rintro r w3 ⟨rfl, h3, k3⟩
            have HN := Lib.hid (St.write HQ.out hwx k3 n (cur + (3 * n)) (by omega) (by omega) h3)
            go_wp2_with fail
            go_roundw
            case rel => exact ⟨k + n, cur + (3 * n), by omega, by omega, by go_num, by go_num, HN⟩
            case measure => simp [intOf]; omega
    · have HE : Hid (St B b s w s.size 0 wr) := by
        obtain rfl : k = s.size := by omega
        obtain ⟨⟨l, ⟨ds, d, e1, e2, e3, e4, e5, e6⟩, hb⟩, hw⟩ := HS.out
        exact Lib.hid ⟨⟨l, ⟨ds, d, e1, e2, e3, e4, fun h => absurd h (by omega), e6⟩, hb⟩, hw⟩
      go_wp2_with fail
      go_end0
      exact ⟨rfl, HE.out⟩

end Go.Proofs.YtedhgkddfgpfhaaDoor.G
