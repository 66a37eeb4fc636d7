/- The walk of FnExactParse: it returns true. -/
import Derived.Test.YtbklpdcipfhdjaaGreatDoorGd
namespace Go.Proofs.YtbklpdcipfhdjaaGreatDoor.Exact
open Go.RowKit Go.Proofs.YtbklpdcipfhdjaaGreatDoor.E Go.Proofs.YtbklpdcipfhdjaaGreatDoor.G Go.Proofs.YtbklpdcipfhdjaaGreatDoor.H Go.Proofs.YtbklpdcipfhdjaaGreatDoor.P Go.Proofs.YtbklpdcipfhdjaaGreatDoor.Q Go.Proofs.YtbklpdcipfhdjaaGreatDoor.R Go.Proofs.YtbklpdcipfhdjaaGreatDoor.T Go.Proofs.YtbklpdcipfhdjaaGreatDoor.W Go.Proofs.YtbklpdcipfhdjaaGreatDoor.X Go.Proofs.YtbklpdcipfhdjaaGreatDoor.Pe Go.Proofs.YtbklpdcipfhdjaaGreatDoor.Ap Go.Proofs.YtbklpdcipfhdjaaGreatDoor.Srt Go.Proofs.YtbklpdcipfhdjaaGreatDoor.Sm Go.Proofs.YtbklpdcipfhdjaaGreatDoor.Gd

set_option maxHeartbeats 400000 in
set_option maxRecDepth 100000 in
theorem exact_any (e0 e1 : Value) (t : ByteArray) (ao : Option Addr) (cap : Nat) (l : List Wn) (w : World) (hE : Env e0 e1 w) (ht : t.size ≤ 1048576) (hL : Ls ao cap l w) :
    Calls Tryz.prog 7 #[.string t, .slice ao l.length cap] w fun e w' => e = .returned (.bool true) ∧ Below w.heap.size w w' := by
  have HL := Lib.hid hL
  have HE := Lib.hid hE
  have hfits := hL.fits
  have hsml : Hid (l.length ≤ 1048576) := Lib.hid hL.small
  have htxl : Hid ((texts l).length ≤ 16777216) := Lib.hid hL.text
  have HSZ : Hid (∀ p ∈ prs l, p.1.size ≤ 1099511627776) := Lib.hid (by
    intro p hp
    obtain ⟨x, hx, rfl⟩ := List.mem_map.1 hp
    exact (hL.sm x hx).n)
  clear hL hE
  go_enter Tryz.func7, Tryz.ntmps7
  go_wp2_with fail
  refine hfits.mono ?_
  rintro e w1 ⟨⟨v, rfl⟩, g1⟩
  have HB1 := Lib.hid g1
  clear g1 hfits
  cases v with
  | false =>
    go_wp2_with fail
    go_ret
    exact ⟨rfl, HB1.out⟩
  | true =>
    have hT := type_any t w1 (by omega)
    have hW := well_ls (HL.out.below HB1.out)
    cases htt : isType t with
    | false =>
      rw [htt] at hT
      go_wp2_with fail
      refine hT.mono ?_
      rintro e w2 ⟨rfl, rfl⟩
      go_wp2_with fail
      go_ret
      exact ⟨rfl, HB1.out⟩
    | true =>
      rw [htt] at hT
      have HTT := Lib.hid htt
      clear htt
      go_wp2_with fail
      refine hT.mono ?_
      rintro e w2 ⟨rfl, rfl⟩
      go_wp2_with fail
      refine hW.mono ?_
      rintro e w3 ⟨⟨v, rfl, hv⟩, g3⟩
      have HB3 := Lib.hid (chain HB1.out g3)
      clear g3 hT hW
      cases v with
      | false =>
        go_wp2_with fail
        go_ret
        exact ⟨rfl, HB3.out⟩
      | true =>
        have hA := hv rfl
        have HA := Lib.hid hA
        have htx := (HL.out.below HB3.out).texts
        have hts : (tx (texts l)).size ≤ 16777216 := by rw [size_tx]; exact htxl.out
        have hP : Hid (∀ W, Below w3.heap.size w3 W → Calls Tryz.prog 14 #[.string (t ++ tx (texts l))] W fun e w' => ∃ v, e = .returned (.tuple #[.string (lower t), v, .int .i64 0]) ∧ Pv v (sortP (prl l)) w' ∧ Below W.heap.size W w') := Lib.hid fun W hW => parse_good e0 e1 t l W (HE.out.below (chain HB3.out hW)) ht HTT.out hsml.out htxl.out HA.out
        have HLow := Lib.hid (fun W => lower_any t W (by omega))
        have HPR : Hid (∀ W, Below w3.heap.size w3 W → Calls Tryz.prog 28 #[.slice ao l.length cap] W fun e w' => ∃ v, e = .returned v ∧ Pv v (prs l) w' ∧ Below W.heap.size W w') := Lib.hid fun W hW => pairs_pv (HL.out.below (chain HB3.out hW))
        have hlp : (prs l).length = l.length := by simp [prs]
        have HMP : Hid (∀ v W, Pv v (prs l) W → Calls Tryz.prog 27 #[v] W fun e w' => ∃ v', e = .returned v' ∧ Pv v' (sortP (prl l)) w' ∧ Below W.heap.size W w') := Lib.hid fun v W h => by rw [← lowP_prs]; exact map_pv h (by have := hsml.out; omega) HSZ.out
        have HSM : Hid (∀ v v2 W, Pv v (sortP (prl l)) W → Pv v2 (sortP (prl l)) W → Calls Tryz.prog 22 #[v, v2] W fun e w' => e = .returned (.bool true) ∧ Below W.heap.size W w') := Lib.hid fun v v2 W h h2 => same_pv h h2 (by rw [sort_len]; simp only [prl, List.length_map]; exact hsml.out)
        generalize tx (texts l) = tl at htx hts hP
        generalize lower t = lt at hP HLow
        clear hv hA HL HE HA HSZ hlp
        go_wp2_with fail
        refine htx.mono ?_
        rintro e w4 ⟨rfl, g4⟩
        have HB4 := Lib.hid g4
        clear g4 htx
        go_wp2_with fail
        refine (hP.out w4 HB4.out).mono ?_
        rintro e w5 ⟨v, rfl, hv, g5⟩
        have HB5 := Lib.hid (chain HB4.out g5)
        have hsv : ∃ a n c, v = .slice a n c := by
          rcases hv with ⟨h, _⟩ | ⟨g, cp, h, _⟩
          · exact ⟨_, _, _, h⟩
          · exact ⟨_, _, _, h⟩
        obtain ⟨a5, n5, c5, rfl⟩ := hsv
        have HV := Lib.hid hv
        clear hv g5 hP HB4
        go_wp2_with fail
        refine (HLow.out w5).mono ?_
        rintro e w6 ⟨rfl, g6⟩
        have HB6 := Lib.hid (chain HB5.out g6)
        have HV6 := Lib.hid (HV.out.below g6)
        clear g6 HV HLow HB5
        go_wp2_with fail
        refine (HPR.out w6 HB6.out).mono ?_
        rintro e w7 ⟨v7, rfl, hv7, g7⟩
        have HB7 := Lib.hid (chain HB6.out g7)
        have HV7 := Lib.hid (HV6.out.below g7)
        have hm := HMP.out v7 w7 hv7
        have hsv : ∃ a n c, v7 = .slice a n c := by
          rcases hv7 with ⟨h, _⟩ | ⟨g, cp, h, _⟩
          · exact ⟨_, _, _, h⟩
          · exact ⟨_, _, _, h⟩
        clear hv7 g7 HPR HMP HV6 HB6
        obtain ⟨a7, n7, c7, rfl⟩ := hsv
        go_wp2_with fail
        refine hm.mono ?_
        rintro e w8 ⟨v8, rfl, hv8, g8⟩
        have HB8 := Lib.hid (chain HB7.out g8)
        have hsm := HSM.out _ _ _ (HV7.out.below g8) hv8
        have hsv : ∃ a n c, v8 = .slice a n c := by
          rcases hv8 with ⟨h, _⟩ | ⟨g, cp, h, _⟩
          · exact ⟨_, _, _, h⟩
          · exact ⟨_, _, _, h⟩
        clear hv8 g8 hm HSM HV7 HB7
        obtain ⟨a8, n8, c8, rfl⟩ := hsv
        go_wp2_with fail
        refine hsm.mono ?_
        rintro e w9 ⟨rfl, g9⟩
        have HB9 := Lib.hid (chain HB3.out (chain HB8.out g9))
        clear g9 hsm HB8
        go_wp2_with fail
        go_ret
        exact ⟨rfl, HB9.out⟩
end Go.Proofs.YtbklpdcipfhdjaaGreatDoor.Exact
