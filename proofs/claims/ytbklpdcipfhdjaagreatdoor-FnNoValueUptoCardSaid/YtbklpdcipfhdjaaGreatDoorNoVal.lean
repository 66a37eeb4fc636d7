/- The walk of FnNoValue: it returns true. -/
import Derived.Test.YtbklpdcipfhdjaaGreatDoorRg
import Derived.Deep.DeepCutAuto
namespace Go.Proofs.YtbklpdcipfhdjaaGreatDoor.NoVal
open Go.RowKit Go.Proofs.YtbklpdcipfhdjaaGreatDoor.A Go.Proofs.YtbklpdcipfhdjaaGreatDoor.D Go.Proofs.YtbklpdcipfhdjaaGreatDoor.E Go.Proofs.YtbklpdcipfhdjaaGreatDoor.G Go.Proofs.YtbklpdcipfhdjaaGreatDoor.H Go.Proofs.YtbklpdcipfhdjaaGreatDoor.P Go.Proofs.YtbklpdcipfhdjaaGreatDoor.Q Go.Proofs.YtbklpdcipfhdjaaGreatDoor.U Go.Proofs.YtbklpdcipfhdjaaGreatDoor.R Go.Proofs.YtbklpdcipfhdjaaGreatDoor.T Go.Proofs.YtbklpdcipfhdjaaGreatDoor.V Go.Proofs.YtbklpdcipfhdjaaGreatDoor.W Go.Proofs.YtbklpdcipfhdjaaGreatDoor.X Go.Proofs.YtbklpdcipfhdjaaGreatDoor.Y Go.Proofs.YtbklpdcipfhdjaaGreatDoor.Z Go.Proofs.YtbklpdcipfhdjaaGreatDoor.Ap Go.Proofs.YtbklpdcipfhdjaaGreatDoor.Rg

set_option maxHeartbeats 1500000 in
set_option maxRecDepth 100000 in
theorem noValue_any (a : Addr) (e1 : Value) (t : ByteArray) (ao : Option Addr) (cap : Nat) (l : List Wn) (x : Wn) (w : World) (hE : Env (.iface 188 (.pointer (some a))) e1 w) (ht : t.size ≤ 1048576) (hL : Ls ao cap l w) (hx : Xs x) :
    Calls Tryz.prog 3 #[.string t, .slice ao l.length cap, .agg x.cells] w fun e w' => e = .returned (.bool true) ∧ Below w.heap.size w w' := by
  have HL := Lib.hid hL
  have HE := Lib.hid hE
  have HSX : Hid (∀ y ∈ l ++ [(⟨x.ahead, x.behind, x.name, ⟨#[120]⟩, false⟩ : Wn)], Sm y) := Lib.hid (by
    intro y hy
    rcases List.mem_append.1 hy with h | h
    · exact hL.sm y h
    · simp at h; subst h; exact ⟨hx.sm.a, hx.sm.b, hx.sm.n, (by show 1 ≤ _; decide)⟩)
  have hfits := hL.fits.mono (fun e w' h => h)
  have hnl := hL.small
  clear hL hE
  obtain ⟨wB, hwB⟩ : ∃ wB, wB = w.alloc (.cells x.cells 24) := ⟨_, rfl⟩
  have HBB : Hid (Below w.heap.size w wB) := Lib.hid (by rw [hwB]; exact (Below.refl _ w).alloc (Nat.le_refl _) _)
  have hLB := HL.out.below HBB.out
  have hfB := hLB.fits
  have HX : Hid (Bxd w.heap.size x wB) := Lib.hid (by rw [hwB]; exact Bxd.new x w)
  unfold Wn.cells at hwB
  unfold Wn.cells
  clear hfits hLB
  go_enter Tryz.func3, Tryz.ntmps3
  go_wp2_with fail
  rw [← hwB]
  clear hwB
  refine hfB.mono ?_
  clear hfB
  rintro e w1 ⟨⟨v, rfl⟩, g1⟩
  have HB1 := Lib.hid (chain HBB.out g1)
  have HX1 := Lib.hid (HX.out.below g1)
  have hf1 := fits1_any x w1
  unfold Wn.cells at hf1
  generalize decide x.fits = v1 at hf1
  clear g1 HX
  cases v with
  | false =>
    go_wp2_with fail
    go_ret
    exact ⟨rfl, HB1.out⟩
  | true =>
    have d0 := HX1.out.c0
    have d1 := HX1.out.c1
    have d2 := HX1.out.c2
    have d3 := HX1.out.c3
    have d4 := HX1.out.c4
    go_wp2_with fail
    refine hf1.mono ?_
    clear hf1
    rintro e w2 ⟨rfl, g2⟩
    have HB2 := Lib.hid (chain HB1.out g2)
    have HX2 := Lib.hid (HX1.out.below g2)
    clear g2 d0 d1 d2 d3 d4 HX1
    cases v1 with
    | false =>
      go_wp2_with fail
      go_ret
      exact ⟨rfl, HB2.out⟩
    | true =>
      have hT := fun W => type_any t W (by omega)
      have HL2 := Lib.hid (HL.out.below HB2.out)
      go_upto_region 5 with fail
      go_cut [44] (fun c wx => ∃ vb, c = .bool vb ∧ Hid (vb = false → isType t = true ∧ Apart (l ++ [(⟨x.ahead, x.behind, x.name, ⟨#[120]⟩, false⟩ : Wn)])) ∧ Hid (Below w2.heap.size w2 wx))
      case first =>
        cases htt : isType t with
        | false =>
          rw [htt] at hT
          have hT2 : ∀ W, Calls Tryz.prog 12 #[.string t] W fun e w' => e = .returned (.bool false) ∧ w' = W := fun W => (hT W).mono fun e w' h => ⟨h.1, h.2.symm⟩
          have HT2 := Lib.hid hT2
          clear hT2 hT
          go_quiet (first | (go_at_call 12; exact Calls.quiet_of_same (HT2.out _)))
          go_wp2_with fail
          go_meet
          exact ⟨_, rfl, Lib.hid (by intro h; cases h), Lib.hid ⟨rfl, rfl, rfl, Nat.le_refl _, fun _ _ => rfl⟩⟩
        | true =>
          rw [htt] at hT
          have HTT := Lib.hid htt
          have hT := Lib.hid hT
          clear htt
          go_region_held_law (fun w' => w'.cell? ⟨w.heap.size, 0, none⟩ = some (.string x.ahead) ∧ w'.cell? ⟨w.heap.size, 1, none⟩ = some (.string x.behind) ∧ w'.cell? ⟨w.heap.size, 2, none⟩ = some (.string x.name) ∧ w'.cell? ⟨w.heap.size, 3, none⟩ = some (.string x.value) ∧ Below w2.heap.size w2 w')
            (first | (refine s_of HX2.out ?_; (repeat' (first | assumption | exact Below.refl _ _ | apply Below.drew | apply below_alloc'))))
            (first
              | (go_at_call 12; refine (hT.out _).mono ?_; rintro e w3 ⟨rfl, rfl⟩)
              | (go_at_call 13; refine (well2 ho5 hb5 HL2.out.small HSX.out).mono ?_; rintro e w6 ⟨⟨vw, rfl, hvw⟩, hb6⟩)
              | (refine step_append (by rfl) (.tmp 30) (.tmp 31) 22 rfl (.slice (some ⟨w2.heap.size, 0, none⟩) 0 0) (.slice ao l.length cap) (by simp [Act.eval, Act.put]) (by simp [Act.eval, Act.put]) (run1 HL2.out (by first | exact bl1 w2 _ | exact bl2 w2 _ _) (by omega) (by first | exact l1 w2 _ | exact l2 w2 _ _ | exact l3 w2 _ _) _) ?_; rintro v1 w4 ⟨ho4, hb4, hg4, ⟨ao4, n4, c4, rfl⟩⟩)
              | (refine step_append (by rfl) (.tmp 30) (.tmp 31) 22 rfl (.slice (some ⟨w2.heap.size + 1, 0, none⟩) 0 0) (.slice ao l.length cap) (by simp [Act.eval, Act.put]) (by simp [Act.eval, Act.put]) (run1 HL2.out (by first | exact bl1 w2 _ | exact bl2 w2 _ _) (by omega) (by first | exact l1 w2 _ | exact l2 w2 _ _ | exact l3 w2 _ _) _) ?_; rintro v1 w4 ⟨ho4, hb4, hg4, ⟨ao4, n4, c4, rfl⟩⟩)
              | (refine step_append (by rfl) (.tmp 32) (.tmp 40) 22 rfl (.slice ao4 n4 c4) (.slice (some ⟨w4.heap.size, 0, none⟩) 1 1) (by simp [Act.eval, Act.put]) (by simp [Act.eval, Act.put]) (run2 (x := ⟨x.ahead, x.behind, x.name, ⟨#[120]⟩, false⟩) HL2.out.small (by first | exact ho4 | exact ho4.alloc _) (by first | exact hb4 | exact below_alloc' hb4 _) (by first | exact heap_alloc_new w4 _ | exact (hg4.block _ (by first | (simp; done) | (simp; omega)) (by simp)).trans (l3 w2 _ _) | exact (hg4.block _ (by first | (simp; done) | (simp; omega)) (by simp)).trans (l2 w2 _ _)) _) ?_; rintro v2 w5 ⟨ho5, hb5, ⟨g5, c5, rfl⟩⟩)
              | (refine step_append (by rfl) (.tmp 32) (.tmp 40) 22 rfl (.slice ao4 n4 c4) (.slice (some ⟨w2.heap.size, 0, none⟩) 1 1) (by simp [Act.eval, Act.put]) (by simp [Act.eval, Act.put]) (run2 (x := ⟨x.ahead, x.behind, x.name, ⟨#[120]⟩, false⟩) HL2.out.small (by first | exact ho4 | exact ho4.alloc _) (by first | exact hb4 | exact below_alloc' hb4 _) (by first | exact heap_alloc_new w4 _ | exact (hg4.block _ (by first | (simp; done) | (simp; omega)) (by simp)).trans (l3 w2 _ _) | exact (hg4.block _ (by first | (simp; done) | (simp; omega)) (by simp)).trans (l2 w2 _ _)) _) ?_; rintro v2 w5 ⟨ho5, hb5, ⟨g5, c5, rfl⟩⟩)
              | (refine step_append (by rfl) (.tmp 32) (.tmp 40) 22 rfl (.slice ao4 n4 c4) (.slice (some ⟨w2.heap.size + 1, 0, none⟩) 1 1) (by simp [Act.eval, Act.put]) (by simp [Act.eval, Act.put]) (run2 (x := ⟨x.ahead, x.behind, x.name, ⟨#[120]⟩, false⟩) HL2.out.small (by first | exact ho4 | exact ho4.alloc _) (by first | exact hb4 | exact below_alloc' hb4 _) (by first | exact heap_alloc_new w4 _ | exact (hg4.block _ (by first | (simp; done) | (simp; omega)) (by simp)).trans (l3 w2 _ _) | exact (hg4.block _ (by first | (simp; done) | (simp; omega)) (by simp)).trans (l2 w2 _ _)) _) ?_; rintro v2 w5 ⟨ho5, hb5, ⟨g5, c5, rfl⟩⟩))
          all_goals
            have HB6 := Lib.hid (show Below w2.heap.size w2 w6 from ⟨hb6.os, hb6.tape, hb6.output, hb6.size, hb6.block⟩)
            have HVW := Lib.hid hvw
            clear hb6 hvw
            go_wp2_with fail
            go_meet
            exact ⟨_, rfl, Lib.hid (fun h => ⟨HTT.out, HVW.out (by simpa using h)⟩), HB6⟩
      case rest =>
        obtain ⟨vb, rfl, HVB, HB6⟩ := hcut
        clear hT
        have HX6 := Lib.hid (HX2.out.below HB6.out)
        have HBB6 := Lib.hid (chain HB2.out HB6.out)
        have HLt : Hid (∀ W, Below wc.heap.size wc W → Calls Tryz.prog 15 #[.slice ao l.length cap] W fun e w' => e = .returned (.string (tx (texts l))) ∧ Below wc.heap.size wc w') := Lib.hid fun W hW => ((HL2.out.below (chain HB6.out hW)).texts).mono (fun e w' h => ⟨h.1, chain hW h.2⟩)
        cases vb with
        | true =>
          clear HVB HLt
          go_wp2_with fail
          go_ret
          exact ⟨rfl, HBB6.out⟩
        | false =>
          have HP : Hid (∀ W, Below wc.heap.size wc W → Calls Tryz.prog 14 #[.string (t ++ tx (texts l) ++ x.ahead ++ ⟨#[59]⟩ ++ x.behind ++ x.name)] W fun e w' => e = .returned (.tuple #[.string (lower t), .slice none 0 0, .int .i64 1]) ∧ Below wc.heap.size wc w') := Lib.hid fun W hW => (parse_noValue a e1 t l x W (HE.out.below (chain HBB6.out hW)) ht (HVB.out rfl).1 HL.out.text hx (HVB.out rfl).2).mono (fun e w' h => ⟨h.1, chain hW h.2⟩)
          have htls : (tx (texts l)).size ≤ 16777216 := by rw [size_tx]; exact HL.out.text
          have hlow := fun W => lower_any t W (by omega)
          have HLow := Lib.hid hlow
          clear hlow
          generalize tx (texts l) = tl at HP HLt htls
          generalize lower t = lt at HP HLow
          have hxa := hx.a
          have hxb := hx.b
          have hxn := hx.n
          go_wp2_with fail
          go_region_held (fun w' => w'.cell? ⟨w.heap.size, 0, none⟩ = some (.string x.ahead) ∧ w'.cell? ⟨w.heap.size, 1, none⟩ = some (.string x.behind) ∧ w'.cell? ⟨w.heap.size, 2, none⟩ = some (.string x.name) ∧ w'.cell? ⟨w.heap.size, 3, none⟩ = some (.string x.value) ∧ Below wc.heap.size wc w')
            (first | (refine s_of HX6.out ?_; (repeat' (first | assumption | exact Below.refl _ _ | apply Below.drew | apply below_alloc'))))
            (first
              | (go_at_call 15; refine (HLt.out _ (by (repeat' (first | assumption | exact Below.refl _ _ | apply Below.drew | apply below_alloc')))).mono ?_; rintro e w7 ⟨rfl, hb7⟩)
              | (go_at_call 14; refine (HP.out _ (by (repeat' (first | assumption | exact Below.refl _ _ | apply Below.drew | apply below_alloc')))).mono ?_; rintro e w8 ⟨rfl, hb8⟩))
          all_goals
            have HB8 := Lib.hid (chain HBB6.out (show Below wc.heap.size wc w8 from ⟨hb8.os, hb8.tape, hb8.output, hb8.size, hb8.block⟩))
            clear hb8 HP
            go_wp2_with fail
            refine (HLow.out w8).mono ?_
            rintro e w9 ⟨rfl, hb9⟩
            have HB9 := Lib.hid (chain HB8.out hb9)
            clear hb9
            go_wp2_with fail
            go_ret
            exact ⟨by simp, HB9.out⟩

end Go.Proofs.YtbklpdcipfhdjaaGreatDoor.NoVal
