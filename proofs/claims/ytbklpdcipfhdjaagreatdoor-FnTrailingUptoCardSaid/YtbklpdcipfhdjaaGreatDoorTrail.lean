/- The walk of FnTrailing: it returns true. -/
import Derived.Test.YtbklpdcipfhdjaaGreatDoorGd
namespace Go.Proofs.YtbklpdcipfhdjaaGreatDoor.Trail
open Go.RowKit Go.Proofs.YtbklpdcipfhdjaaGreatDoor.E Go.Proofs.YtbklpdcipfhdjaaGreatDoor.F Go.Proofs.YtbklpdcipfhdjaaGreatDoor.G Go.Proofs.YtbklpdcipfhdjaaGreatDoor.H Go.Proofs.YtbklpdcipfhdjaaGreatDoor.P Go.Proofs.YtbklpdcipfhdjaaGreatDoor.Q Go.Proofs.YtbklpdcipfhdjaaGreatDoor.R Go.Proofs.YtbklpdcipfhdjaaGreatDoor.T Go.Proofs.YtbklpdcipfhdjaaGreatDoor.W Go.Proofs.YtbklpdcipfhdjaaGreatDoor.X Go.Proofs.YtbklpdcipfhdjaaGreatDoor.Pe Go.Proofs.YtbklpdcipfhdjaaGreatDoor.Ap Go.Proofs.YtbklpdcipfhdjaaGreatDoor.Rg Go.Proofs.YtbklpdcipfhdjaaGreatDoor.Srt Go.Proofs.YtbklpdcipfhdjaaGreatDoor.Sm Go.Proofs.YtbklpdcipfhdjaaGreatDoor.Gd

set_option maxHeartbeats 400000 in
set_option maxRecDepth 100000 in
theorem trail_any (e0 e1 : Value) (t : ByteArray) (ao : Option Addr) (cap : Nat) (l : List Wn) (x : Wn) (w : World) (hE : Env e0 e1 w) (ht : t.size ≤ 1048576) (hL : Ls ao cap l w) (hx : Xs x) :
    Calls Tryz.prog 8 #[.string t, .slice ao l.length cap, .agg x.cells] w fun e w' => e = .returned (.bool true) ∧ Below w.heap.size w w' := by
  have HL := Lib.hid hL
  have HE := Lib.hid hE
  have hsml : Hid (l.length ≤ 1048576) := Lib.hid hL.small
  have htxl : Hid ((texts l).length ≤ 16777216) := Lib.hid hL.text
  have HSZ : Hid (∀ p ∈ prs l, p.1.size ≤ 1099511627776) := Lib.hid (by
    intro p hp
    obtain ⟨x, hx, rfl⟩ := List.mem_map.1 hp
    exact (hL.sm x hx).n)
  clear hL hE
  obtain ⟨wB, hwB⟩ : ∃ wB, wB = w.alloc (.cells x.cells 24) := ⟨_, rfl⟩
  have HBB : Hid (Below w.heap.size w wB) := Lib.hid (by rw [hwB]; exact (Below.refl _ w).alloc (Nat.le_refl _) _)
  have hLB := HL.out.below HBB.out
  have hfB := hLB.fits
  have HX : Hid (Bxd w.heap.size x wB) := Lib.hid (by rw [hwB]; exact Bxd.new x w)
  unfold Wn.cells at hwB
  unfold Wn.cells
  clear hLB
  go_enter Tryz.func8, Tryz.ntmps8
  go_wp2_with fail
  rw [← hwB]
  clear hwB
  refine hfB.mono ?_
  clear hfB
  rintro e w1 ⟨⟨v, rfl⟩, g1⟩
  have HB1 := Lib.hid (chain HBB.out g1)
  have HX1 := Lib.hid (HX.out.below g1)
  have hf1 := fits1_any x w1
  unfold Wn.cells at hf1
  generalize decide x.fits = v1 at hf1
  clear g1 HX
  cases v with
  | false =>
    go_wp2_with fail
    go_ret
    exact ⟨rfl, HB1.out⟩
  | true =>
    have d0 := HX1.out.c0
    have d1 := HX1.out.c1
    have d2 := HX1.out.c2
    have d3 := HX1.out.c3
    have d4 := HX1.out.c4
    go_wp2_with fail
    refine hf1.mono ?_
    clear hf1
    rintro e w2 ⟨rfl, g2⟩
    have HB2 := Lib.hid (chain HB1.out g2)
    have HX2 := Lib.hid (HX1.out.below g2)
    clear g2 d0 d1 d2 d3 d4 HX1
    cases v1 with
    | false =>
      go_wp2_with fail
      go_ret
      exact ⟨rfl, HB2.out⟩
    | true =>
      have hT := type_any t w2 (by omega)
      have hW := well_ls (HL.out.below HB2.out)
      cases htt : isType t with
      | false =>
        rw [htt] at hT
        go_wp2_with fail
        refine hT.mono ?_
        rintro e w3 ⟨rfl, rfl⟩
        go_wp2_with fail
        go_ret
        exact ⟨rfl, HB2.out⟩
      | true =>
        rw [htt] at hT
        have HTT := Lib.hid htt
        clear htt
        go_wp2_with fail
        refine hT.mono ?_
        rintro e w3 ⟨rfl, rfl⟩
        go_wp2_with fail
        refine hW.mono ?_
        rintro e w3 ⟨⟨v, rfl, hv⟩, g3⟩
        have HB3 := Lib.hid (chain HB2.out g3)
        have HX3 := Lib.hid (HX2.out.below g3)
        clear g3 hT hW HX2
        cases v with
        | false =>
          go_wp2_with fail
          go_ret
          exact ⟨rfl, HB3.out⟩
        | true =>
          have hA := hv rfl
          have HA := Lib.hid hA
          have d0 := HX3.out.c0
          have d1 := HX3.out.c1
          have hba := blanks_any x.ahead w3 (by have := hx.a; omega)
          have hbb := blanks_any x.behind w3 (by have := hx.b; omega)
          cases hbl : blanks x.ahead with
          | false =>
            rw [hbl] at hba
            go_wp2_with fail
            refine hba.mono ?_
            rintro e w4 ⟨rfl, rfl⟩
            go_wp2_with fail
            go_ret
            exact ⟨rfl, HB3.out⟩
          | true =>
            rw [hbl] at hba
            go_wp2_with fail
            refine hba.mono ?_
            rintro e w4 ⟨rfl, rfl⟩
            have HA1 := Lib.hid hbl
            clear hbl hba
            cases hbl2 : blanks x.behind with
            | false =>
              rw [hbl2] at hbb
              go_wp2_with fail
              refine hbb.mono ?_
              rintro e w4 ⟨rfl, rfl⟩
              go_wp2_with fail
              go_ret
              exact ⟨rfl, HB3.out⟩
            | true =>
              rw [hbl2] at hbb
              go_wp2_with fail
              refine hbb.mono ?_
              rintro e w4 ⟨rfl, rfl⟩
              have HA2 := Lib.hid hbl2
              clear hbl2 hbb
              have hk1 : (bl x.ahead).all blk = true := by
                have := HA1.out
                unfold blanks at this
                rw [Bool.and_eq_true] at this
                exact this.1
              have hk2 : (bl x.behind).all blk = true := by
                have := HA2.out
                unfold blanks at this
                rw [Bool.and_eq_true] at this
                exact this.1
              have HLt : Hid (∀ W, Below w3.heap.size w3 W → Calls Tryz.prog 15 #[.slice ao l.length cap] W fun e w' => e = .returned (.string (tx (texts l))) ∧ Below w3.heap.size w3 w') := Lib.hid fun W hW => ((HL.out.below (chain HB3.out hW)).texts).mono (fun e w' h => ⟨h.1, chain hW h.2⟩)
              have hts : (tx (texts l)).size ≤ 16777216 := by rw [size_tx]; exact htxl.out
              have hP : Hid (∀ W, Below w3.heap.size w3 W → Calls Tryz.prog 14 #[.string (t ++ tx (texts l) ++ x.ahead ++ ⟨#[59]⟩ ++ x.behind)] W fun e w' => (∃ a n c, e = .returned (.tuple #[.string (lower t), .slice a n c, .int .i64 0]) ∧ Pv (.slice a n c) (sortP (prl l)) w') ∧ Below w3.heap.size w3 w') := Lib.hid fun W hW => (parse_trail e0 e1 t l x.ahead x.behind W (HE.out.below (chain HB3.out hW)) ht HTT.out hsml.out htxl.out HA.out hk1 hk2 hx.a hx.b).mono (fun e w' h => by
                obtain ⟨v, rfl, hv, hb⟩ := h
                have hsv : ∃ a n c, v = .slice a n c := by
                  rcases hv with ⟨h, _⟩ | ⟨g, cp, h, _⟩
                  · exact ⟨_, _, _, h⟩
                  · exact ⟨_, _, _, h⟩
                obtain ⟨a5, n5, c5, rfl⟩ := hsv
                exact ⟨⟨_, _, _, rfl, hv⟩, chain hW hb⟩)
              have HLow := Lib.hid (fun W => lower_any t W (by omega))
              have HPR : Hid (∀ W, Below w3.heap.size w3 W → Calls Tryz.prog 28 #[.slice ao l.length cap] W fun e w' => ∃ v, e = .returned v ∧ Pv v (prs l) w' ∧ Below W.heap.size W w') := Lib.hid fun W hW => pairs_pv (HL.out.below (chain HB3.out hW))
              have hlp : (prs l).length = l.length := by simp [prs]
              have HMP : Hid (∀ v W, Pv v (prs l) W → Calls Tryz.prog 27 #[v] W fun e w' => ∃ v', e = .returned v' ∧ Pv v' (sortP (prl l)) w' ∧ Below W.heap.size W w') := Lib.hid fun v W h => by rw [← lowP_prs]; exact map_pv h (by have := hsml.out; omega) HSZ.out
              have HSM : Hid (∀ v v2 W, Pv v (sortP (prl l)) W → Pv v2 (sortP (prl l)) W → Calls Tryz.prog 22 #[v, v2] W fun e w' => e = .returned (.bool true) ∧ Below W.heap.size W w') := Lib.hid fun v v2 W h h2 => same_pv h h2 (by rw [sort_len]; simp only [prl, List.length_map]; exact hsml.out)
              generalize tx (texts l) = tl at hts hP HLt
              generalize lower t = lt at hP HLow
              have hxa := hx.a
              have hxb := hx.b
              clear hv hA HL HE HA HSZ hlp hk1 hk2 d0 d1
              go_wp2_with fail
              go_region_held (fun w' => w'.cell? ⟨w.heap.size, 0, none⟩ = some (.string x.ahead) ∧ w'.cell? ⟨w.heap.size, 1, none⟩ = some (.string x.behind) ∧ w'.cell? ⟨w.heap.size, 2, none⟩ = some (.string x.name) ∧ w'.cell? ⟨w.heap.size, 3, none⟩ = some (.string x.value) ∧ Below w3.heap.size w3 w')
                (first | (refine s_of HX3.out ?_; (repeat' (first | assumption | exact Below.refl _ _ | apply Below.drew | apply below_alloc'))))
                (first
                  | (go_at_call 15; refine (HLt.out _ (by (repeat' (first | assumption | exact Below.refl _ _ | apply Below.drew | apply below_alloc')))).mono ?_; rintro e w4 ⟨rfl, hb4⟩)
                  | (go_at_call 14; refine (hP.out _ (by (repeat' (first | assumption | exact Below.refl _ _ | apply Below.drew | apply below_alloc')))).mono ?_; rintro e w5 ⟨⟨a5, n5, c5, rfl, hv⟩, hb5⟩))
              all_goals
                have HB5 := Lib.hid hb5
                have HV := Lib.hid hv
                clear hv hb5 hP
                go_wp2_with fail
                refine (HLow.out w5).mono ?_
                rintro e w6 ⟨rfl, g6⟩
                have HB6 := Lib.hid (chain HB5.out g6)
                have HV6 := Lib.hid (HV.out.below g6)
                clear g6 HV HLow HB5
                go_wp2_with fail
                refine (HPR.out w6 HB6.out).mono ?_
                rintro e w7 ⟨v7, rfl, hv7, g7⟩
                have HB7 := Lib.hid (chain HB6.out g7)
                have HV7 := Lib.hid (HV6.out.below g7)
                have hm := HMP.out v7 w7 hv7
                have hsv : ∃ a n c, v7 = .slice a n c := by
                  rcases hv7 with ⟨h, _⟩ | ⟨g, cp, h, _⟩
                  · exact ⟨_, _, _, h⟩
                  · exact ⟨_, _, _, h⟩
                clear hv7 g7 HPR HMP HV6 HB6
                obtain ⟨a7, n7, c7, rfl⟩ := hsv
                go_wp2_with fail
                refine hm.mono ?_
                rintro e w8 ⟨v8, rfl, hv8, g8⟩
                have HB8 := Lib.hid (chain HB7.out g8)
                have hsm := HSM.out _ _ _ (HV7.out.below g8) hv8
                have hsv : ∃ a n c, v8 = .slice a n c := by
                  rcases hv8 with ⟨h, _⟩ | ⟨g, cp, h, _⟩
                  · exact ⟨_, _, _, h⟩
                  · exact ⟨_, _, _, h⟩
                clear hv8 g8 hm HSM HV7 HB7
                obtain ⟨a8, n8, c8, rfl⟩ := hsv
                go_wp2_with fail
                refine hsm.mono ?_
                rintro e w9 ⟨rfl, g9⟩
                have HB9 := Lib.hid (chain HB3.out (chain HB8.out g9))
                clear g9 hsm HB8
                go_wp2_with fail
                go_ret
                exact ⟨rfl, HB9.out⟩
end Go.Proofs.YtbklpdcipfhdjaaGreatDoor.Trail
