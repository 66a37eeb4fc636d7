/- The walk of FnOpen: it returns true. -/
import Derived.Test.YtbklpdcipfhdjaaGreatDoorRo
import Derived.Deep.DeepCutAuto
namespace Go.Proofs.YtbklpdcipfhdjaaGreatDoor.Open
open Go.RowKit Go.Proofs.YtbklpdcipfhdjaaGreatDoor.A Go.Proofs.YtbklpdcipfhdjaaGreatDoor.D Go.Proofs.YtbklpdcipfhdjaaGreatDoor.E Go.Proofs.YtbklpdcipfhdjaaGreatDoor.G Go.Proofs.YtbklpdcipfhdjaaGreatDoor.H Go.Proofs.YtbklpdcipfhdjaaGreatDoor.P Go.Proofs.YtbklpdcipfhdjaaGreatDoor.Q Go.Proofs.YtbklpdcipfhdjaaGreatDoor.U Go.Proofs.YtbklpdcipfhdjaaGreatDoor.R Go.Proofs.YtbklpdcipfhdjaaGreatDoor.T Go.Proofs.YtbklpdcipfhdjaaGreatDoor.V Go.Proofs.YtbklpdcipfhdjaaGreatDoor.W Go.Proofs.YtbklpdcipfhdjaaGreatDoor.X Go.Proofs.YtbklpdcipfhdjaaGreatDoor.Y Go.Proofs.YtbklpdcipfhdjaaGreatDoor.Z Go.Proofs.YtbklpdcipfhdjaaGreatDoor.Ap Go.Proofs.YtbklpdcipfhdjaaGreatDoor.Rg Go.Proofs.YtbklpdcipfhdjaaGreatDoor.Ro

set_option maxHeartbeats 1500000 in
set_option maxRecDepth 100000 in
theorem open_any (a : Addr) (e1 : Value) (t : ByteArray) (ao : Option Addr) (cap : Nat) (l : List Wn) (x : Wn) (w : World) (hE : Env (.iface 188 (.pointer (some a))) e1 w) (ht : t.size ≤ 1048576) (hL : Ls ao cap l w) (hx : Xs x) :
    Calls Tryz.prog 4 #[.string t, .slice ao l.length cap, .agg x.cells] w fun e w' => e = .returned (.bool true) ∧ Below w.heap.size w w' := by
  have HL := Lib.hid hL
  have HE := Lib.hid hE
  have HSX : Hid (∀ y ∈ l ++ [quo x], Sm y) := Lib.hid (by
    intro y hy
    rcases List.mem_append.1 hy with h | h
    · exact hL.sm y h
    · simp at h; subst h; exact ⟨hx.sm.a, hx.sm.b, hx.sm.n, hx.sm.v⟩)
  have hfits := hL.fits.mono (fun e w' h => h)
  have hnl := hL.small
  clear hL hE
  obtain ⟨wB, hwB⟩ : ∃ wB, wB = w.alloc (.cells x.cells 24) := ⟨_, rfl⟩
  have HBB : Hid (Below w.heap.size w wB) := Lib.hid (by rw [hwB]; exact (Below.refl _ w).alloc (Nat.le_refl _) _)
  have hLB := HL.out.below HBB.out
  have hfB := hLB.fits
  have HX : Hid (Bxd w.heap.size x wB) := Lib.hid (by rw [hwB]; exact Bxd.new x w)
  unfold Wn.cells at hwB
  unfold Wn.cells
  clear hfits hLB
  go_enter Tryz.func4, Tryz.ntmps4
  go_wp2_with fail
  rw [← hwB]
  clear hwB
  refine hfB.mono ?_
  clear hfB
  rintro e w1 ⟨⟨v, rfl⟩, g1⟩
  have HB1 := Lib.hid (chain HBB.out g1)
  have HX1 := Lib.hid (HX.out.below g1)
  have hf1 := fits1_any x w1
  unfold Wn.cells at hf1
  generalize decide x.fits = v1 at hf1
  clear g1 HX
  cases v with
  | false =>
    go_wp2_with fail
    go_ret
    exact ⟨rfl, HB1.out⟩
  | true =>
    have d0 := HX1.out.c0
    have d1 := HX1.out.c1
    have d2 := HX1.out.c2
    have d3 := HX1.out.c3
    have d4 := HX1.out.c4
    go_wp2_with fail
    refine hf1.mono ?_
    clear hf1
    rintro e w2 ⟨rfl, g2⟩
    have HB2 := Lib.hid (chain HB1.out g2)
    have HX2 := Lib.hid (HX1.out.below g2)
    clear g2 d0 d1 d2 d3 d4 HX1
    cases v1 with
    | false =>
      go_wp2_with fail
      go_ret
      exact ⟨rfl, HB2.out⟩
    | true =>
      have hT := fun W => type_any t W (by omega)
      have HL2 := Lib.hid (HL.out.below HB2.out)
      go_upto_region 5 with fail
      go_cut [47] (fun c wx => ∃ vb, c = .bool vb ∧ Hid (vb = false → isType t = true ∧ Apart (l ++ [quo x])) ∧ Hid (Below w2.heap.size w2 wx))
      case first =>
        cases htt : isType t with
        | false =>
          rw [htt] at hT
          have hT2 : ∀ W, Calls Tryz.prog 12 #[.string t] W fun e w' => e = .returned (.bool false) ∧ w' = W := fun W => (hT W).mono fun e w' h => ⟨h.1, h.2.symm⟩
          have HT2 := Lib.hid hT2
          clear hT2 hT
          go_quiet (first | (go_at_call 12; exact Calls.quiet_of_same (HT2.out _)))
          go_wp2_with fail
          go_meet
          exact ⟨_, rfl, Lib.hid (by intro h; cases h), Lib.hid ⟨rfl, rfl, rfl, Nat.le_refl _, fun _ _ => rfl⟩⟩
        | true =>
          rw [htt] at hT
          have HTT := Lib.hid htt
          have hT := Lib.hid hT
          clear htt
          go_region_held_law (fun w' => w'.cell? ⟨w.heap.size, 0, none⟩ = some (.string x.ahead) ∧ w'.cell? ⟨w.heap.size, 1, none⟩ = some (.string x.behind) ∧ w'.cell? ⟨w.heap.size, 2, none⟩ = some (.string x.name) ∧ w'.cell? ⟨w.heap.size, 3, none⟩ = some (.string x.value) ∧ Below w2.heap.size w2 w')
            (first | (refine s_of HX2.out ?_; (repeat' (first | assumption | exact Below.refl _ _ | apply Below.drew | apply below_alloc'))))
            (first
              | (go_at_call 12; refine (hT.out _).mono ?_; rintro e w3 ⟨rfl, rfl⟩)
              | (go_at_call 13; refine (well2 ho5 hb5 HL2.out.small HSX.out).mono ?_; rintro e w6 ⟨⟨vw, rfl, hvw⟩, hb6⟩)
              | (refine step_append (by rfl) (.tmp 31) (.tmp 32) 22 rfl (.slice (some ⟨w2.heap.size, 0, none⟩) 0 0) (.slice ao l.length cap) (by simp [Act.eval, Act.put]) (by simp [Act.eval, Act.put]) (run1 HL2.out (by first | exact bl1 w2 _ | exact bl2 w2 _ _) (by omega) (by first | exact l1 w2 _ | exact l2 w2 _ _ | exact l3 w2 _ _) _) ?_; rintro v1 w4 ⟨ho4, hb4, hg4, ⟨ao4, n4, c4, rfl⟩⟩)
              | (refine step_append (by rfl) (.tmp 31) (.tmp 32) 22 rfl (.slice (some ⟨w2.heap.size + 1, 0, none⟩) 0 0) (.slice ao l.length cap) (by simp [Act.eval, Act.put]) (by simp [Act.eval, Act.put]) (run1 HL2.out (by first | exact bl1 w2 _ | exact bl2 w2 _ _) (by omega) (by first | exact l1 w2 _ | exact l2 w2 _ _ | exact l3 w2 _ _) _) ?_; rintro v1 w4 ⟨ho4, hb4, hg4, ⟨ao4, n4, c4, rfl⟩⟩)
              | (refine step_append (by rfl) (.tmp 33) (.tmp 43) 22 rfl (.slice ao4 n4 c4) (.slice (some ⟨w4.heap.size, 0, none⟩) 1 1) (by simp [Act.eval, Act.put]) (by simp [Act.eval, Act.put]) (run2 (x := quo x) HL2.out.small (by first | exact ho4 | exact ho4.alloc _) (by first | exact hb4 | exact below_alloc' hb4 _) (by first | exact heap_alloc_new w4 _ | exact (hg4.block _ (by first | (simp; done) | (simp; omega)) (by simp)).trans (l3 w2 _ _) | exact (hg4.block _ (by first | (simp; done) | (simp; omega)) (by simp)).trans (l2 w2 _ _)) _) ?_; rintro v2 w5 ⟨ho5, hb5, ⟨g5, c5, rfl⟩⟩)
              | (refine step_append (by rfl) (.tmp 33) (.tmp 43) 22 rfl (.slice ao4 n4 c4) (.slice (some ⟨w2.heap.size, 0, none⟩) 1 1) (by simp [Act.eval, Act.put]) (by simp [Act.eval, Act.put]) (run2 (x := quo x) HL2.out.small (by first | exact ho4 | exact ho4.alloc _) (by first | exact hb4 | exact below_alloc' hb4 _) (by first | exact heap_alloc_new w4 _ | exact (hg4.block _ (by first | (simp; done) | (simp; omega)) (by simp)).trans (l3 w2 _ _) | exact (hg4.block _ (by first | (simp; done) | (simp; omega)) (by simp)).trans (l2 w2 _ _)) _) ?_; rintro v2 w5 ⟨ho5, hb5, ⟨g5, c5, rfl⟩⟩)
              | (refine step_append (by rfl) (.tmp 33) (.tmp 43) 22 rfl (.slice ao4 n4 c4) (.slice (some ⟨w2.heap.size + 1, 0, none⟩) 1 1) (by simp [Act.eval, Act.put]) (by simp [Act.eval, Act.put]) (run2 (x := quo x) HL2.out.small (by first | exact ho4 | exact ho4.alloc _) (by first | exact hb4 | exact below_alloc' hb4 _) (by first | exact heap_alloc_new w4 _ | exact (hg4.block _ (by first | (simp; done) | (simp; omega)) (by simp)).trans (l3 w2 _ _) | exact (hg4.block _ (by first | (simp; done) | (simp; omega)) (by simp)).trans (l2 w2 _ _)) _) ?_; rintro v2 w5 ⟨ho5, hb5, ⟨g5, c5, rfl⟩⟩))
          all_goals
            have HB6 := Lib.hid (show Below w2.heap.size w2 w6 from ⟨hb6.os, hb6.tape, hb6.output, hb6.size, hb6.block⟩)
            have HVW := Lib.hid hvw
            clear hb6 hvw
            go_wp2_with fail
            go_meet
            exact ⟨_, rfl, Lib.hid (fun h => ⟨HTT.out, HVW.out (by simpa using h)⟩), HB6⟩
      case rest =>
        obtain ⟨vb, rfl, HVB, HB6⟩ := hcut
        clear hT
        have HX6 := Lib.hid (HX2.out.below HB6.out)
        have HBB6 := Lib.hid (chain HB2.out HB6.out)
        have HLt : Hid (∀ W, Below wc.heap.size wc W → Calls Tryz.prog 15 #[.slice ao l.length cap] W fun e w' => e = .returned (.string (tx (texts l))) ∧ Below wc.heap.size wc w') := Lib.hid fun W hW => ((HL2.out.below (chain HB6.out hW)).texts).mono (fun e w' h => ⟨h.1, chain hW h.2⟩)
        cases vb with
        | true =>
          clear HVB HLt
          go_wp2_with fail
          go_ret
          exact ⟨rfl, HBB6.out⟩
        | false =>
          obtain ⟨tu, htu⟩ : ∃ tu, tu = tx (Wn.text (quo x)) := ⟨_, rfl⟩
          obtain ⟨k, hk⟩ : ∃ k, tu.size = k + 1 := by
            have h1 : tu.size = (Wn.text (quo x)).length := by rw [htu, size_tx]
            rw [quo_text, List.length_append, List.length_singleton] at h1
            exact ⟨_, h1⟩
          have hkl : k ≤ 16777216 := by
            have h1 : tu.size = (Wn.text (quo x)).length := by rw [htu, size_tx]
            rw [quo_text] at h1
            have e1 := sz x.ahead
            have e2 := sz x.behind
            have e3 := sz x.name
            have e4 := sz x.value
            have hq := qb_le (bl x.value)
            have := hx.a
            have := hx.b
            have := hx.n
            have := hx.v
            simp only [List.length_append, List.length_cons, List.length_nil] at h1
            omega
          have HP : Hid (∀ W, Below wc.heap.size wc W → Calls Tryz.prog 14 #[.string (t ++ tx (texts l) ++ tu.extract 0 k)] W fun e w' => e = .returned (.tuple #[.string (lower t), .slice none 0 0, .int .i64 1]) ∧ Below wc.heap.size wc w') := Lib.hid fun W hW => (parse_open a e1 t tu k l x W (HE.out.below (chain HBB6.out hW)) ht (HVB.out rfl).1 HL.out.text hx (HVB.out rfl).2 htu hk).mono (fun e w' h => ⟨h.1, chain hW h.2⟩)
          have HU : Hid (∀ W b, RowW W b 0 [quo x] → Below wc.heap.size wc W → Calls Tryz.prog 15 #[.slice (some ⟨b, 0, none⟩) 1 1] W fun e w' => e = .returned (.string tu) ∧ Below wc.heap.size wc w') := Lib.hid (by
            intro W b hr hW
            have := text_row b 0 1 [quo x] W (by simp) (fun y hy => by simp at hy; subst hy; exact ⟨hx.sm.a, hx.sm.b, hx.sm.n, hx.sm.v⟩) (by
              have h1 : tu.size = (Wn.text (quo x)).length := by rw [htu, size_tx]
              have e : texts [quo x] = Wn.text (quo x) := by simp [texts]
              rw [e]; omega) hr
            rw [show tx (texts [quo x]) = tu by rw [htu]; simp [texts]] at this
            exact this.mono (fun e w' h => ⟨h.1, chain hW h.2⟩))
          have htls : (tx (texts l)).size ≤ 16777216 := by rw [size_tx]; exact HL.out.text
          have hlow := fun W => lower_any t W (by omega)
          have HLow := Lib.hid hlow
          have hks : (tu.extract 0 k).size ≤ 16777216 := by rw [ByteArray.size_extract]; omega
          clear hlow htu
          generalize tx (texts l) = tl at HP HLt htls
          generalize lower t = lt at HP HLow
          have d0 := HX6.out.c0
          have d1 := HX6.out.c1
          have d2 := HX6.out.c2
          have d3 := HX6.out.c3
          go_wp2_with fail
          obtain ⟨w7, hw7⟩ : ∃ w7, w7 = wc.alloc (.cells #[.string x.ahead, .string x.behind, .string x.name, .string x.value, .bool true] 24) := ⟨_, rfl⟩
          have HB7 : Hid (Below wc.heap.size wc w7) := Lib.hid (by rw [hw7]; exact (Below.refl _ wc).alloc (Nat.le_refl _) _)
          have HR7 : Hid (RowW w7 wc.heap.size 0 [quo x]) := Lib.hid (by
            intro i y hy
            cases i with
            | zero =>
              simp at hy
              subst hy
              rw [hw7]
              refine ⟨?_, ?_, ?_, ?_, ?_⟩ <;> (rw [Lib.cell_of_heap (heap_alloc_new wc _)]; rfl)
            | succ i => simp at hy)
          rw [← hw7]
          refine (HU.out w7 wc.heap.size HR7.out HB7.out).mono ?_
          clear hw7 d0 d1 d2 d3
          rintro e w8 ⟨rfl, hb8⟩
          have HB8 := Lib.hid hb8
          clear hb8
          have j1 : (0 : Int) ≤ (k : Int) := by omega
          have j5 : IntKind.i64.wrap (k : Int) = (k : Int) := by rw [IntKind.wrap_i64]; omega
          have j2 : (k : Int) ≤ (tu.size : Int) := by omega
          have j3 : IntKind.i64.wrap ((tu.size : Int) - 1) = (k : Int) := by rw [IntKind.wrap_i64]; omega
          have j4 : IntKind.i64.wrap ((k : Int) + 1 - 1) = (k : Int) := by rw [IntKind.wrap_i64]; omega
          go_wp2_with fail
          go_region_with (first
            | (go_at_call 15; refine (HLt.out _ (by first | assumption | exact ⟨HB8.out.os, HB8.out.tape, HB8.out.output, HB8.out.size, HB8.out.block⟩)).mono ?_; rintro e w9 ⟨rfl, hb9⟩)
            | (go_at_call 14; refine (HP.out _ (by first | assumption | exact ⟨HB8.out.os, HB8.out.tape, HB8.out.output, HB8.out.size, HB8.out.block⟩ | exact ⟨hb9.os, hb9.tape, hb9.output, hb9.size, hb9.block⟩)).mono ?_; rintro e w10 ⟨rfl, hb10⟩))
          all_goals
            have HB10 := Lib.hid (chain HBB6.out (show Below wc.heap.size wc w10 from ⟨hb10.os, hb10.tape, hb10.output, hb10.size, hb10.block⟩))
            clear hb10 HP
            go_wp2_with fail
            refine (HLow.out w10).mono ?_
            rintro e w11 ⟨rfl, hb11⟩
            have HB11 := Lib.hid (chain HB10.out hb11)
            clear hb11
            go_wp2_with fail
            go_ret
            exact ⟨by simp, HB11.out⟩

end Go.Proofs.YtbklpdcipfhdjaaGreatDoor.Open
