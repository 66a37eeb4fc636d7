/- For FnRound: the walks of zzFits3, zzFits2 and impl.Format. The walk of FnRound: it returns true. -/
import Derived.Test.YtbklpdcipfhdjaaGreatDoorFm
namespace Go.Proofs.YtbklpdcipfhdjaaGreatDoor.Fo
open Go.RowKit Go.Maps Go.Sort Go.Lib Go.Proofs.YtbklpdcipfhdjaaGreatDoor.G Go.Proofs.YtbklpdcipfhdjaaGreatDoor.H Go.Proofs.YtbklpdcipfhdjaaGreatDoor.P Go.Proofs.YtbklpdcipfhdjaaGreatDoor.Q Go.Proofs.YtbklpdcipfhdjaaGreatDoor.T Go.Proofs.YtbklpdcipfhdjaaGreatDoor.W Go.Proofs.YtbklpdcipfhdjaaGreatDoor.X Go.Proofs.YtbklpdcipfhdjaaGreatDoor.Y Go.Proofs.YtbklpdcipfhdjaaGreatDoor.Pe Go.Proofs.YtbklpdcipfhdjaaGreatDoor.E Go.Proofs.YtbklpdcipfhdjaaGreatDoor.R Go.Proofs.YtbklpdcipfhdjaaGreatDoor.Cm Go.Proofs.YtbklpdcipfhdjaaGreatDoor.Pk Go.Proofs.YtbklpdcipfhdjaaGreatDoor.Pm Go.Proofs.YtbklpdcipfhdjaaGreatDoor.Gp Go.Proofs.YtbklpdcipfhdjaaGreatDoor.Rd Go.Proofs.YtbklpdcipfhdjaaGreatDoor.Pa Go.Proofs.YtbklpdcipfhdjaaGreatDoor.Srt Go.Proofs.YtbklpdcipfhdjaaGreatDoor.Gd Go.Proofs.YtbklpdcipfhdjaaGreatDoor.Uq Go.Proofs.YtbklpdcipfhdjaaGreatDoor.It Go.Proofs.YtbklpdcipfhdjaaGreatDoor.S Go.Proofs.YtbklpdcipfhdjaaGreatDoor.C Go.Proofs.YtbklpdcipfhdjaaGreatDoor.A Go.Proofs.YtbklpdcipfhdjaaGreatDoor.Og Go.Proofs.YtbklpdcipfhdjaaGreatDoor.Ec Go.Proofs.YtbklpdcipfhdjaaGreatDoor.Dc Go.Proofs.YtbklpdcipfhdjaaGreatDoor.Sl Go.Proofs.YtbklpdcipfhdjaaGreatDoor.F Go.Proofs.YtbklpdcipfhdjaaGreatDoor.Pn Go.Proofs.YtbklpdcipfhdjaaGreatDoor.J Go.Proofs.YtbklpdcipfhdjaaGreatDoor.Px Go.Proofs.YtbklpdcipfhdjaaGreatDoor.Sm Go.Proofs.YtbklpdcipfhdjaaGreatDoor.Fp Go.Proofs.YtbklpdcipfhdjaaGreatDoor.Ne Go.Proofs.YtbklpdcipfhdjaaGreatDoor.Bd Go.Proofs.YtbklpdcipfhdjaaGreatDoor.D Go.Proofs.YtbklpdcipfhdjaaGreatDoor.Fs Go.Proofs.YtbklpdcipfhdjaaGreatDoor.Fm

set_option maxHeartbeats 1000000 in
set_option maxRecDepth 100000 in
theorem fits3_any (a b : ByteArray) (w : World) (ha : a.size ≤ 1048576) (hb : b.size ≤ 1048576) :
    Calls Tryz.prog 45 #[.agg #[.string a, .string b]] w fun e w' => e = .returned (.bool true) ∧ Below w.heap.size w w' := by
  go_enter Tryz.func45, Tryz.ntmps45
  go_wp2_with fail
  go_ret
  exact ⟨rfl, (Below.refl _ w).alloc (Nat.le_refl _) _⟩

set_option maxHeartbeats 1000000 in
set_option maxRecDepth 100000 in
theorem fits2_none (ao : Option Addr) (cap : Nat) (w : World) :
    Calls Tryz.prog 30 #[.slice ao 0 cap] w fun e w' => e = .returned (.bool true) ∧ Below w.heap.size w w' := by
  go_enter Tryz.func30, Tryz.ntmps30
  go_wp2_with fail
  refine wp_loop_rounds 1 ?_
  rw [rounds_succ]
  go_wp2_with fail
  go_ret
  exact ⟨rfl, Below.refl _ _⟩

set_option maxHeartbeats 1000000 in
set_option maxRecDepth 100000 in
theorem fits2_row (b off cap : Nat) (l : List Pr) (w : World) (hl : l.length ≤ 1048576) (hs : ∀ p ∈ l, p.1.size ≤ 1048576 ∧ p.2.size ≤ 1048576) (h : RowP w b off l) :
    Calls Tryz.prog 30 #[.slice (some ⟨b, off, none⟩) l.length cap] w fun e w' => e = .returned (.bool true) ∧ Below w.heap.size w w' := by
  have H := Lib.hid h
  have HS := Lib.hid hs
  clear h hs
  generalize hn : l.length = n at *
  have HN := Lib.hid hn
  clear hn
  go_enter Tryz.func30, Tryz.ntmps30
  go_wp2_with fail
  go_loopw [10] (fun i wr => ∃ k : Nat, k ≤ n ∧ i = .int .i64 k ∧ Hid (Below w.heap.size w wr)) (fun i _ => n - (intOf i).toNat)
  case atStart => exact ⟨0, Nat.zero_le _, rfl, Lib.hid (Below.refl _ _)⟩
  case round =>
    obtain ⟨k, hk, rfl, HB⟩ := hrel
    by_cases hlt : k < n
    · obtain ⟨x, hx⟩ : ∃ x, l[k]? = some x := ⟨l[k]'(by rw [HN.out]; exact hlt), List.getElem?_eq_getElem _⟩
      obtain ⟨c0, c1⟩ := (H.out.below HB.out) k x hx
      obtain ⟨s0, s1⟩ := HS.out x (List.mem_of_getElem? hx)
      clear hx
      obtain ⟨w5, hw5⟩ : ∃ w5, w5 = wr.alloc (.cells #[.string x.1, .string x.2] 38) := ⟨_, rfl⟩
      have HB5 : Hid (Below w.heap.size w w5) := Lib.hid (by rw [hw5]; exact HB.out.alloc HB.out.size _)
      have hf := fits3_any x.1 x.2 w5 s0 s1
      go_wp2_with fail
      rw [← hw5]
      refine hf.mono ?_
      clear hf hw5
      rintro e w6 ⟨rfl, g6⟩
      have G := Lib.hid (chain HB5.out g6)
      clear g6
      go_wp2_with fail
      exact ⟨⟨k + 1, by omega, by go_num, G⟩, by simp [intOf]; omega⟩
    · obtain rfl : k = n := by omega
      go_wp2_with fail
      go_ret
      exact ⟨rfl, HB.out⟩

set_option maxHeartbeats 1000000 in
set_option maxRecDepth 100000 in
theorem format_none (t : ByteArray) (ao : Option Addr) (cap : Nat) (w : World) (ht : isType t = true) (hts : t.size ≤ 16777216) :
    Calls Tryz.prog 31 #[.string t, .slice ao 0 cap] w fun e w' => ∃ ps : List Pr, ps.Perm [] ∧ e = .returned (.string (lower t ++ tx (texts (ps.map fmtW)))) ∧ Below w.heap.size w w' := by
  have hmm := @run_makeMap Tryz.prog
  have hO := OM.made w
  have HF := Lib.hid (fmt_any t w.heap.size [] (w.alloc (.map #[] 0)) hO ⟨by simp, by simp, by simp⟩ ht hts (by simp [tot]))
  clear hO
  go_enter Tryz.func31, Tryz.ntmps31
  go_wp2_with fail
  refine wp_loop_rounds 1 ?_
  rw [rounds_succ]
  go_wp2_with fail
  refine HF.out.mono ?_
  rintro e w1 ⟨ps, hp, rfl, hb⟩
  have HB := Lib.hid (chain ((Below.refl _ w).alloc (Nat.le_refl _) _) hb)
  have HP := Lib.hid hp
  clear hp hb HF
  generalize hu : lower t ++ tx (texts (ps.map fmtW)) = u at *
  have HU := Lib.hid hu
  clear hu
  go_wp2_with fail
  go_ret
  exact ⟨ps, HP.out, by rw [HU.out]; rfl, HB.out⟩

set_option maxHeartbeats 1000000 in
set_option maxRecDepth 100000 in
theorem format_row (t : ByteArray) (b off cap : Nat) (l : List Pr) (w : World) (hN : Nf l) (htot : tot l ≤ 1048576) (ht : isType t = true) (hts : t.size ≤ 16777216) (h : RowP w b off l) :
    Calls Tryz.prog 31 #[.string t, .slice (some ⟨b, off, none⟩) l.length cap] w fun e w' => ∃ ps : List Pr, ps.Perm l ∧ e = .returned (.string (lower t ++ tx (texts (ps.map fmtW)))) ∧ Below w.heap.size w w' := by
  have hmm := @run_makeMap Tryz.prog
  have H := Lib.hid h
  have HS : Hid (∀ p ∈ l, p.1.size + p.2.size + 1 ≤ 1048576) := Lib.hid fun p hp => Nat.le_trans (tot_mem hp) htot
  have hnd : (l.map (·.1)).Nodup := List.pairwise_map.2 ((List.pairwise_map.1 hN.apart).imp fun hne e => hne (congrArg lower e))
  have HND := Lib.hid hnd
  have HF : Hid (∀ Bm W, OM W Bm l → Calls Tryz.prog 46 #[.string t, .map (some Bm)] W fun e w' => ∃ ps : List Pr, ps.Perm l ∧ e = .returned (.string (lower t ++ tx (texts (ps.map fmtW)))) ∧ Below W.heap.size W w') := Lib.hid fun Bm W hO => fmt_any t Bm l W hO hN ht hts htot
  have hl : l.length ≤ 1048576 := Nat.le_trans (tot_len l) htot
  have hO := OM.made w
  have HO := Lib.hid hO
  clear h hN htot hnd hO
  generalize hn : l.length = n at *
  have HNL := Lib.hid hn
  clear hn
  go_enter Tryz.func31, Tryz.ntmps31
  go_wp2_with fail
  have HB0 : Hid (Below w.heap.size w (w.alloc (.map #[] 0))) := Lib.hid ((Below.refl _ w).alloc (Nat.le_refl _) _)
  generalize w.alloc (.map #[] 0) = wA at *
  generalize hb : w.heap.size = Bm at *
  go_loopw [11] (fun i wr => ∃ k : Nat, k ≤ n ∧ i = .int .i64 k ∧ Hid (OM wr Bm (l.take k)) ∧ Hid (Below Bm w wr)) (fun i _ => n - (intOf i).toNat)
  case atStart => exact ⟨0, Nat.zero_le _, rfl, Lib.hid (by simpa using HO.out), HB0⟩
  case round =>
    obtain ⟨k, hk, rfl, HK, HB⟩ := hrel
    by_cases hlt : k < n
    · obtain ⟨x, hx⟩ : ∃ x, l[k]? = some x := ⟨l[k]'(by rw [HNL.out]; exact hlt), List.getElem?_eq_getElem _⟩
      have hbel : Below w.heap.size w wr := by rw [hb]; exact HB.out
      obtain ⟨c0, c1⟩ := (H.out.below hbel) k x hx
      have hxs := HS.out x (List.mem_of_getElem? hx)
      have htk : l.take (k + 1) = l.take k ++ [x] := by rw [List.take_add_one, hx]; rfl
      have hap : ∀ q ∈ l.take k, q.1 ≠ x.1 := by
        intro q hq e
        have h1 : ((l.take (k + 1)).map (·.1)).Nodup := ((List.take_sublist _ _).map _).nodup HND.out
        rw [htk, List.map_append, List.nodup_append] at h1
        exact h1.2.2 _ (List.mem_map.2 ⟨q, hq, rfl⟩) _ (by simp) e
      have hal : Below wr.heap.size wr (wr.alloc (.cells #[.string x.1, .string x.2] 38)) := (Below.refl _ wr).alloc (Nat.le_refl _) _
      obtain ⟨W, hput, hOW, hgW⟩ := (HK.out.next hal).store x hap (by omega) (by omega) (by rw [List.length_take]; unfold maxLen; omega)
      have HOW : Hid (OM W Bm (l.take (k + 1))) := Lib.hid (by rw [htk]; exact hOW)
      have HBW : Hid (Below Bm w W) := Lib.hid ((HB.out.trans (hal.mono (by rw [← hb]; exact hbel.size))).grown hgW (by rw [← hb]; have := hbel.size; have := hal.size; omega) (fun j hj => by cases hj; exact Nat.le_refl _))
      clear hx htk hap hal hOW hgW hbel
      go_wp2_with fail
      exact ⟨⟨k + 1, by omega, by go_num, HOW, HBW⟩, by simp [intOf]; omega⟩
    · obtain rfl : k = n := by omega
      have hOl : OM wr Bm l := by
        have := HK.out
        rw [List.take_of_length_le (by rw [HNL.out]; exact Nat.le_refl _)] at this
        exact this
      have HFF := Lib.hid (HF.out Bm wr hOl)
      have hbel : Below w.heap.size w wr := by rw [hb]; exact HB.out
      have HBE := Lib.hid hbel
      clear hOl hbel HF HK
      go_wp2_with fail
      refine HFF.out.mono ?_
      rintro e w1 ⟨ps, hp, rfl, hb1⟩
      have HB1 := Lib.hid (chain HBE.out hb1)
      have HP := Lib.hid hp
      clear hp hb1 HFF
      generalize hu : lower t ++ tx (texts (ps.map fmtW)) = u at *
      have HU := Lib.hid hu
      clear hu
      go_wp2_with fail
      go_ret
      exact ⟨ps, HP.out, by rw [HU.out]; rfl, HB1.out⟩
end Go.Proofs.YtbklpdcipfhdjaaGreatDoor.Fo

namespace Go.Proofs.YtbklpdcipfhdjaaGreatDoor.Round
open Go.RowKit Go.Maps Go.Sort Go.Lib Go.Proofs.YtbklpdcipfhdjaaGreatDoor.G Go.Proofs.YtbklpdcipfhdjaaGreatDoor.H Go.Proofs.YtbklpdcipfhdjaaGreatDoor.P Go.Proofs.YtbklpdcipfhdjaaGreatDoor.Q Go.Proofs.YtbklpdcipfhdjaaGreatDoor.T Go.Proofs.YtbklpdcipfhdjaaGreatDoor.W Go.Proofs.YtbklpdcipfhdjaaGreatDoor.X Go.Proofs.YtbklpdcipfhdjaaGreatDoor.Y Go.Proofs.YtbklpdcipfhdjaaGreatDoor.Pe Go.Proofs.YtbklpdcipfhdjaaGreatDoor.E Go.Proofs.YtbklpdcipfhdjaaGreatDoor.R Go.Proofs.YtbklpdcipfhdjaaGreatDoor.Cm Go.Proofs.YtbklpdcipfhdjaaGreatDoor.Pk Go.Proofs.YtbklpdcipfhdjaaGreatDoor.Pm Go.Proofs.YtbklpdcipfhdjaaGreatDoor.Gp Go.Proofs.YtbklpdcipfhdjaaGreatDoor.Rd Go.Proofs.YtbklpdcipfhdjaaGreatDoor.Pa Go.Proofs.YtbklpdcipfhdjaaGreatDoor.Srt Go.Proofs.YtbklpdcipfhdjaaGreatDoor.Gd Go.Proofs.YtbklpdcipfhdjaaGreatDoor.Uq Go.Proofs.YtbklpdcipfhdjaaGreatDoor.It Go.Proofs.YtbklpdcipfhdjaaGreatDoor.S Go.Proofs.YtbklpdcipfhdjaaGreatDoor.C Go.Proofs.YtbklpdcipfhdjaaGreatDoor.A Go.Proofs.YtbklpdcipfhdjaaGreatDoor.Og Go.Proofs.YtbklpdcipfhdjaaGreatDoor.Ec Go.Proofs.YtbklpdcipfhdjaaGreatDoor.Dc Go.Proofs.YtbklpdcipfhdjaaGreatDoor.Sl Go.Proofs.YtbklpdcipfhdjaaGreatDoor.F Go.Proofs.YtbklpdcipfhdjaaGreatDoor.Pn Go.Proofs.YtbklpdcipfhdjaaGreatDoor.J Go.Proofs.YtbklpdcipfhdjaaGreatDoor.Px Go.Proofs.YtbklpdcipfhdjaaGreatDoor.Sm Go.Proofs.YtbklpdcipfhdjaaGreatDoor.Fp Go.Proofs.YtbklpdcipfhdjaaGreatDoor.Ne Go.Proofs.YtbklpdcipfhdjaaGreatDoor.Bd Go.Proofs.YtbklpdcipfhdjaaGreatDoor.D Go.Proofs.YtbklpdcipfhdjaaGreatDoor.Fs Go.Proofs.YtbklpdcipfhdjaaGreatDoor.Fo

/-- A list of parameters as a slice: nil, or in a row. -/
structure Lp (ao : Option Addr) (cap : Nat) (l : List Pr) (w : World) : Prop where
  row : l = [] ∨ ∃ b off, ao = some ⟨b, off, none⟩ ∧ RowP w b off l
  cap : l.length ≤ cap
theorem Lp.below {ao : Option Addr} {cap : Nat} {l : List Pr} {w w' : World} (h : Lp ao cap l w) (hb : Below w.heap.size w w') : Lp ao cap l w' := by
  refine ⟨?_, h.cap⟩
  rcases h.row with h | ⟨b, off, e, hr⟩
  · exact .inl h
  · exact .inr ⟨b, off, e, hr.below hb⟩
theorem fits_lp {ao : Option Addr} {cap : Nat} {l : List Pr} {w : World} (h : Lp ao cap l w) (ht : tot l ≤ 1048576) :
    Calls Tryz.prog 30 #[.slice ao l.length cap] w fun e w' => e = .returned (.bool true) ∧ Below w.heap.size w w' := by
  rcases h.row with rfl | ⟨b, off, rfl, hr⟩
  · exact fits2_none ao cap w
  · exact fits2_row b off cap l w (Nat.le_trans (tot_len l) ht) (fun p hp => by have := tot_mem hp; omega) hr
theorem names_lp {ao : Option Addr} {cap : Nat} {l : List Pr} {w : World} (h : Lp ao cap l w) (ht : tot l ≤ 1048576) :
    Calls Tryz.prog 19 #[.slice ao l.length cap] w fun e w' => (∃ v, e = .returned (.bool v) ∧ (v = true → Nf l)) ∧ Below w.heap.size w w' := by
  rcases h.row with rfl | ⟨b, off, rfl, hr⟩
  · refine (names_none ao cap w).mono ?_
    rintro e w' ⟨rfl, hb⟩
    exact ⟨⟨true, rfl, fun _ => ⟨by simp, by simp, by simp⟩⟩, hb⟩
  · refine (names_row b off cap l w h.cap (by have := tot_len l; omega) (fun p hp => by have := tot_mem hp; omega) hr).mono ?_
    rintro e w' ⟨⟨v, rfl, hv⟩, hb⟩
    refine ⟨⟨v, rfl, fun h => ⟨(hv h).tok, fun p hp h2 => ?_, (hv h).apart⟩⟩, hb⟩
    have h1 := (hv h).star p hp
    have h3 : has p.1 42 = true := List.any_eq_true.2 ⟨42, h2, by decide⟩
    rw [h3] at h1
    cases h1
theorem format_lp {ao : Option Addr} {cap : Nat} {l : List Pr} {w : World} (t : ByteArray) (h : Lp ao cap l w) (hN : Nf l) (htot : tot l ≤ 1048576) (ht : isType t = true) (hts : t.size ≤ 16777216) :
    Calls Tryz.prog 31 #[.string t, .slice ao l.length cap] w fun e w' => ∃ ps : List Pr, ps.Perm l ∧ e = .returned (.string (lower t ++ tx (texts (ps.map fmtW)))) ∧ Below w.heap.size w w' := by
  rcases h.row with rfl | ⟨b, off, rfl, hr⟩
  · exact format_none t ao cap w ht hts
  · exact format_row t b off cap l w hN htot ht hts hr
theorem map_lp {ao : Option Addr} {cap : Nat} {l : List Pr} {w : World} (h : Lp ao cap l w) (ht : tot l ≤ 1048576) :
    Calls Tryz.prog 27 #[.slice ao l.length cap] w fun e w' => ∃ v', e = .returned v' ∧ Pv v' (sortP (lowP l)) w' ∧ Below w.heap.size w w' := by
  rcases h.row with rfl | ⟨b, off, rfl, hr⟩
  · refine (map_none ao cap w).mono ?_
    rintro e w' ⟨rfl, hb⟩
    exact ⟨_, rfl, .inl ⟨rfl, rfl⟩, hb⟩
  · refine (map_row b off cap l w (by have := tot_len l; omega) (fun p hp => by have := tot_mem hp; omega) hr).mono ?_
    rintro e w' ⟨v', rfl, h1, hb⟩
    exact ⟨v', rfl, pv_own h1, hb⟩

set_option maxHeartbeats 1000000 in
set_option maxRecDepth 100000 in
theorem round_any (e0 e1 : Value) (t : ByteArray) (ao : Option Addr) (cap : Nat) (l : List Pr) (w : World) (hE : Env e0 e1 w) (ht : t.size ≤ 1048576) (hL : Lp ao cap l w) (htot : tot l ≤ 1048576) (h5 : l.length ≤ 524288) :
    Calls Tryz.prog 9 #[.string t, .slice ao l.length cap] w fun e w' => e = .returned (.bool true) ∧ Below w.heap.size w w' := by
  have HL := Lib.hid hL
  have HE := Lib.hid hE
  have HT := Lib.hid htot
  have H5 := Lib.hid h5
  have hfits := fits_lp hL htot
  clear hL hE htot h5
  go_enter Tryz.func9, Tryz.ntmps9
  go_wp2_with fail
  refine hfits.mono ?_
  rintro e w1 ⟨rfl, g1⟩
  have HB1 := Lib.hid g1
  clear g1 hfits
  have hT := type_any t w1 (by omega)
  have hN := names_lp (HL.out.below HB1.out) HT.out
  cases htt : isType t with
  | false =>
    rw [htt] at hT
    go_wp2_with fail
    refine hT.mono ?_
    rintro e w2 ⟨rfl, rfl⟩
    go_wp2_with fail
    go_ret
    exact ⟨rfl, HB1.out⟩
  | true =>
    rw [htt] at hT
    have HTT := Lib.hid htt
    clear htt
    go_wp2_with fail
    refine hT.mono ?_
    rintro e w2 ⟨rfl, rfl⟩
    go_wp2_with fail
    refine hN.mono ?_
    rintro e w3 ⟨⟨v, rfl, hv⟩, g3⟩
    have HB3 := Lib.hid (chain HB1.out g3)
    clear g3 hT hN
    cases v with
    | false =>
      go_wp2_with fail
      go_ret
      exact ⟨rfl, HB3.out⟩
    | true =>
      have HNF := Lib.hid (hv rfl)
      clear hv
      have hfm := format_lp t (HL.out.below HB3.out) HNF.out HT.out HTT.out (by omega)
      have HP : Hid (∀ ps : List Pr, ps.Perm l → ∀ W, Below w3.heap.size w3 W → Calls Tryz.prog 14 #[.string (lower t ++ tx (texts (ps.map fmtW)))] W fun e w' => ∃ v, e = .returned (.tuple #[.string (lower t), v, .int .i64 0]) ∧ Pv v (sortP (lowP l)) w' ∧ Below W.heap.size W w') :=
        Lib.hid fun ps hp W hW => parse_fmt e0 e1 t l ps W (HE.out.below (chain HB3.out hW)) (by omega) HTT.out HNF.out hp HT.out H5.out
      have HLow := Lib.hid (fun W => lower_any t W (by omega))
      have HMP : Hid (∀ W, Below w3.heap.size w3 W → Calls Tryz.prog 27 #[.slice ao l.length cap] W fun e w' => ∃ v', e = .returned v' ∧ Pv v' (sortP (lowP l)) w' ∧ Below W.heap.size W w') := Lib.hid fun W hW => map_lp (HL.out.below (chain HB3.out hW)) HT.out
      have HSM : Hid (∀ v v2 W, Pv v (sortP (lowP l)) W → Pv v2 (sortP (lowP l)) W → Calls Tryz.prog 22 #[v, v2] W fun e w' => e = .returned (.bool true) ∧ Below W.heap.size W w') := Lib.hid fun v v2 W h h2 => same_pv h h2 (by rw [sort_len]; simp only [lowP, List.length_map]; have := H5.out; omega)
      clear HE HL HTT HNF HT
      generalize l.length = n at *
      go_wp2_with fail
      refine hfm.mono ?_
      rintro e w4 ⟨ps, hps, rfl, g4⟩
      have HP2 := Lib.hid (HP.out ps hps)
      have HB4 := Lib.hid g4
      clear g4 hps HP hfm
      generalize lower t ++ tx (texts (ps.map fmtW)) = u at *
      generalize lower t = lt at HP2 HLow
      go_wp2_with fail
      refine (HP2.out w4 HB4.out).mono ?_
      rintro e w5 ⟨v, rfl, hv, g5⟩
      have HB5 := Lib.hid (chain HB4.out g5)
      have hsv : ∃ a n c, v = .slice a n c := by
        rcases hv with ⟨h, _⟩ | ⟨g, cp, h, _⟩
        · exact ⟨_, _, _, h⟩
        · exact ⟨_, _, _, h⟩
      obtain ⟨a5, n5, c5, rfl⟩ := hsv
      have HV := Lib.hid hv
      clear hv g5 HP2 HB4
      go_wp2_with fail
      refine (HLow.out w5).mono ?_
      rintro e w6 ⟨rfl, g6⟩
      have HB6 := Lib.hid (chain HB5.out g6)
      have HV6 := Lib.hid (HV.out.below g6)
      clear g6 HV HLow HB5
      go_wp2_with fail
      refine (HMP.out w6 HB6.out).mono ?_
      rintro e w8 ⟨v8, rfl, hv8, g8⟩
      have HB8 := Lib.hid (chain HB6.out g8)
      have hsm := HSM.out _ _ _ (HV6.out.below g8) hv8
      have hsv : ∃ a n c, v8 = .slice a n c := by
        rcases hv8 with ⟨h, _⟩ | ⟨g, cp, h, _⟩
        · exact ⟨_, _, _, h⟩
        · exact ⟨_, _, _, h⟩
      clear hv8 g8 HMP HSM HV6 HB6
      obtain ⟨a8, n8, c8, rfl⟩ := hsv
      go_wp2_with fail
      refine hsm.mono ?_
      rintro e w9 ⟨rfl, g9⟩
      have HB9 := Lib.hid (chain HB3.out (chain HB8.out g9))
      clear g9 hsm HB8
      go_wp2_with fail
      go_ret
      exact ⟨rfl, HB9.out⟩
end Go.Proofs.YtbklpdcipfhdjaaGreatDoor.Round
