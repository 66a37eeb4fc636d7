/- The walk of FormatMediaType. -/
import Derived.Test.YtbklpdcipfhdjaaGreatDoorFs
import Derived.Test.YtbklpdcipfhdjaaGreatDoorShelfC
import Derived.Deep.DeepCutAuto
namespace Go.Proofs.YtbklpdcipfhdjaaGreatDoor.Fm
open Go.RowKit Go.Maps Go.Sort Go.Lib Go.Proofs.YtbklpdcipfhdjaaGreatDoor.G Go.Proofs.YtbklpdcipfhdjaaGreatDoor.H Go.Proofs.YtbklpdcipfhdjaaGreatDoor.P Go.Proofs.YtbklpdcipfhdjaaGreatDoor.Q Go.Proofs.YtbklpdcipfhdjaaGreatDoor.T Go.Proofs.YtbklpdcipfhdjaaGreatDoor.W Go.Proofs.YtbklpdcipfhdjaaGreatDoor.X Go.Proofs.YtbklpdcipfhdjaaGreatDoor.Y Go.Proofs.YtbklpdcipfhdjaaGreatDoor.Pe Go.Proofs.YtbklpdcipfhdjaaGreatDoor.E Go.Proofs.YtbklpdcipfhdjaaGreatDoor.R Go.Proofs.YtbklpdcipfhdjaaGreatDoor.Cm Go.Proofs.YtbklpdcipfhdjaaGreatDoor.Pk Go.Proofs.YtbklpdcipfhdjaaGreatDoor.Pm Go.Proofs.YtbklpdcipfhdjaaGreatDoor.Gp Go.Proofs.YtbklpdcipfhdjaaGreatDoor.Rd Go.Proofs.YtbklpdcipfhdjaaGreatDoor.Pa Go.Proofs.YtbklpdcipfhdjaaGreatDoor.Srt Go.Proofs.YtbklpdcipfhdjaaGreatDoor.Gd Go.Proofs.YtbklpdcipfhdjaaGreatDoor.Uq Go.Proofs.YtbklpdcipfhdjaaGreatDoor.It Go.Proofs.YtbklpdcipfhdjaaGreatDoor.S Go.Proofs.YtbklpdcipfhdjaaGreatDoor.C Go.Proofs.YtbklpdcipfhdjaaGreatDoor.A Go.Proofs.YtbklpdcipfhdjaaGreatDoor.Og Go.Proofs.YtbklpdcipfhdjaaGreatDoor.Ec Go.Proofs.YtbklpdcipfhdjaaGreatDoor.Dc Go.Proofs.YtbklpdcipfhdjaaGreatDoor.Sl Go.Proofs.YtbklpdcipfhdjaaGreatDoor.F Go.Proofs.YtbklpdcipfhdjaaGreatDoor.Pn Go.Proofs.YtbklpdcipfhdjaaGreatDoor.J Go.Proofs.YtbklpdcipfhdjaaGreatDoor.Px Go.Proofs.YtbklpdcipfhdjaaGreatDoor.Sm Go.Proofs.YtbklpdcipfhdjaaGreatDoor.Fp Go.Proofs.YtbklpdcipfhdjaaGreatDoor.Ne Go.Proofs.YtbklpdcipfhdjaaGreatDoor.Bd Go.Proofs.YtbklpdcipfhdjaaGreatDoor.D Go.Proofs.YtbklpdcipfhdjaaGreatDoor.Fs Go.Proofs.YtbklpdcipfhdjaaGreatDoor.ShelfC

theorem texts_le {ps : List Pr} (h : ∀ p ∈ ps, p.1.size + p.2.size + 1 ≤ 1048576) : (texts (ps.map fmtW)).length ≤ ps.length * 12582912 := by
  induction ps with
  | nil => simp [texts]
  | cons p l ih =>
    have h1 := h p (by simp)
    have h2 := ih (fun q hq => h q (by simp [hq]))
    have h3 := fmt_len p
    rw [List.map_cons, texts_cons, List.length_append, List.length_cons]
    omega
theorem perm_of {K : List ByteArray} {E ps : List Pr} (hK : K.Perm (E.map (·.1))) (hn : (E.map (·.1)).Nodup) (h1 : ps.map (·.1) = K) (h2 : ∀ p ∈ ps, p ∈ E) : ps.Perm E := by
  have hnd : (ps.map (·.1)).Nodup := by rw [h1]; exact (hK.nodup_iff).2 hn
  refine (List.perm_ext_iff_of_nodup (nodup_of_map hnd) (nodup_of_map hn)).2 fun p => ⟨fun hp => h2 p hp, fun hp => ?_⟩
  have : p.1 ∈ ps.map (·.1) := by rw [h1]; exact hK.mem_iff.2 (List.mem_map.2 ⟨p, hp, rfl⟩)
  obtain ⟨q, hq, e⟩ := List.mem_map.1 this
  rw [← same_of_key E hn q p (h2 q hq) hp e]
  exact hq
theorem ext_sz (v : ByteArray) (a c : Nat) : (bl (v.extract a c)).length ≤ v.size ∧ (v.extract a c).size ≤ v.size := by
  have h1 : (bl (v.extract a c)).length ≤ v.size := by
    rw [ext_bl, List.length_drop, List.length_take, ← P.sz]
    omega
  exact ⟨h1, by rw [P.sz]; exact h1⟩
theorem ext_end (v : ByteArray) (a : Nat) : bl (v.extract a v.size) = (bl v).drop a := by
  rw [ext_bl, List.take_of_length_le (by rw [← P.sz]; exact Nat.le_refl _)]

set_option maxHeartbeats 4000000 in
set_option maxRecDepth 100000 in
theorem fmt_any (t : ByteArray) (Bm : Nat) (E : List Pr) (w : World) (hO : OM w Bm E) (hN : Nf E) (ht : isType t = true) (hts : t.size ≤ 16777216) (htot : tot E ≤ 1048576) :
    Calls Tryz.prog 46 #[.string t, .map (some Bm)] w fun e w' => ∃ ps : List Pr, ps.Perm E ∧ e = .returned (.string (lower t ++ tx (texts (ps.map fmtW)))) ∧ Below w.heap.size w w' := by
  obtain ⟨mj, sb, ok, hcut, hno, hyes⟩ := head_cut t ht hts
  have hEl : E.length ≤ 1048576 := Nat.le_trans (tot_len E) htot
  have HO := Lib.hid hO
  have HN := Lib.hid hN
  have HTOT := Lib.hid htot
  have HNO := Lib.hid hno
  have HYES := Lib.hid hyes
  have hA : Fs w.heap.size (w.alloc (.cells #[.pointer none, .slice none 0 0] 77)) (w.alloc (.cells #[.pointer none, .slice none 0 0] 77)) [] := ⟨fresh w, KO.refl _ _⟩
  have HA := Lib.hid hA
  have hltl : (bl (lower t)).length ≤ 16777216 := by rw [← P.sz, lower_size]; exact hts
  have HOA : Hid (OM (w.alloc (.cells #[.pointer none, .slice none 0 0] 77)) Bm E) := Lib.hid (hO.next ((Below.refl _ w).alloc (Nat.le_refl _) _))
  have HND : Hid ((E.map (·.1)).Nodup) := Lib.hid (by obtain ⟨D, _, hD⟩ := hO; exact hD.nodup)
  clear hO hN htot hno hyes hA ht HO
  go_enter Tryz.func46, Tryz.ntmps46
  go_wp2_with fail
  have HB0 : Hid (Below w.heap.size w (w.alloc (.cells #[.pointer none, .slice none 0 0] 77))) := Lib.hid ((Below.refl _ w).alloc (Nat.le_refl _) _)
  generalize w.alloc (.cells #[.pointer none, .slice none 0 0] 77) = wA at *
  generalize hb : w.heap.size = b at *
  refine (hcut wA).mono ?_
  rintro e w1 ⟨rfl, g1⟩
  have H1 := Lib.hid (HA.out.call g1)
  clear g1
  go_upto_if 26 with fail
  go_cut [] (fun wc => Hid (Fs b wA wc (bl (lower t))))
  case first =>
    cases ok with
    | false =>
      have hT := HNO.out rfl
      have h65 := tok65_any t w1 (by omega)
      rw [hT] at h65
      have hlo := g_lower t (by omega) (tok_ascii hT)
      clear hT
      go_wp2_with fail
      refine h65.mono ?_
      rintro e w2 ⟨rfl, g2⟩
      have H2 := Lib.hid (H1.out.call g2)
      clear g2 h65
      go_wp2_with fail
      refine (hlo w2).mono ?_
      rintro e w3 ⟨rfl, g3⟩
      have H3 := Lib.hid (H2.out.call g3)
      clear g3 hlo
      go_wp2_with fail
      refine (ws_any H3.out (lower t) (by simp) (by rw [lower_size]; omega)).mono ?_
      rintro e w4 ⟨rfl, f4⟩
      have H4 := Lib.hid f4
      clear f4
      go_wp2_with fail
      go_meet
      exact Lib.hid (by have := H4.out; rw [List.nil_append] at this; exact this)
    | true =>
      obtain ⟨hT1, hT2, hs1, hs2, hle⟩ := HYES.out rfl
      have h65 := tok65_any mj w1 (by omega)
      rw [hT1] at h65
      have h652 := fun W => tok65_any sb W (by omega)
      rw [hT2] at h652
      have hlo1 := g_lower mj (by omega) (tok_ascii hT1)
      have hlo2 := g_lower sb (by omega) (tok_ascii hT2)
      have HLE := Lib.hid hle
      have hl1 : (bl (lower mj)).length ≤ 16777216 := by rw [← P.sz, lower_size]; exact hs1
      clear hT1 hT2 hle
      go_wp2_with fail
      refine h65.mono ?_
      rintro e w2 ⟨rfl, g2⟩
      have H2 := Lib.hid (H1.out.call g2)
      clear g2 h65
      go_wp2_with fail
      refine (h652 w2).mono ?_
      rintro e w3 ⟨rfl, g3⟩
      have H3 := Lib.hid (H2.out.call g3)
      clear g3 h652
      go_wp2_with fail
      refine (hlo1 w3).mono ?_
      rintro e w4 ⟨rfl, g4⟩
      have H4 := Lib.hid (H3.out.call g4)
      clear g4 hlo1
      go_wp2_with fail
      refine (ws_any H4.out (lower mj) (by simp) (by rw [lower_size]; omega)).mono ?_
      rintro e w5 ⟨rfl, f5⟩
      have H5 := Lib.hid f5
      clear f5
      go_wp2_with fail
      refine (wb_any H5.out 47 (by omega) (by simp only [List.length_append, List.length_nil]; omega)).mono ?_
      rintro e w6 ⟨rfl, f6⟩
      have H6 := Lib.hid f6
      clear f6
      go_wp2_with fail
      refine (hlo2 w6).mono ?_
      rintro e w7 ⟨rfl, g7⟩
      have H7 := Lib.hid (H6.out.call g7)
      clear g7 hlo2
      go_wp2_with fail
      refine (ws_any H7.out (lower sb) (by first | omega | (simp only [List.length_append, List.length_cons, List.length_nil]; omega)) (by rw [lower_size]; omega)).mono ?_
      rintro e w8 ⟨rfl, f8⟩
      have H8 := Lib.hid f8
      clear f8
      go_wp2_with fail
      go_meet
      exact Lib.hid (by
        have := H8.out
        rw [List.nil_append] at this
        have e : bl (lower mj) ++ [UInt8.ofNat 47] ++ bl (lower sb) = bl (lower t) := HLE.out
        rw [e] at this
        exact this)
  case rest =>
    have HC := hcut
    clear H1
    have HCE := Lib.hid (bd_cells HA.out.bd)
    clear HA
    go_wp2_with fail
    refine (keys_any Bm wc).mono ?_
    rintro e w2 ⟨rfl, rfl⟩
    go_wp2_with fail
    refine (sorted_any (HC.out.om HOA.out HCE.out) hEl).mono ?_
    rintro e w5 ⟨ao, cap, K, rfl, hK, hrow, hb5⟩
    have hF5 := HC.out.call hb5
    have H5 : Hid (Fs b w5 w5 (bl (lower t))) := Lib.hid ⟨hF5.bd, KO.refl _ _⟩
    have HO5 := Lib.hid (hF5.om HOA.out HCE.out)
    have HC5 := Lib.hid (bd_cells hF5.bd)
    have HBW : Hid (Below b w w5) := Lib.hid (HB0.out.trans hF5.ko.below)
    have HK := Lib.hid hK
    have hKl : K.length ≤ 1048576 := by rw [hK.length_eq, List.length_map]; exact hEl
    have hbc : b < wc.heap.size := HC.out.bd.lt
    clear hF5 hb5 hK HC HCE HOA HB0
    have HFIN : Hid (∀ (ps : List Pr) (W W' : World), ps.map (·.1) = K → (∀ p ∈ ps, p ∈ E) → Fs b w5 W (bl (lower t) ++ texts (ps.map fmtW)) → Below b W W' → ps.Perm E ∧ Value.string ⟨(bl (lower t) ++ texts (List.map fmtW ps)).toArray⟩ = .string (lower t ++ tx (texts (ps.map fmtW))) ∧ Below w.heap.size w W') := Lib.hid (by
      intro ps W W' h1 h2 h3 h4
      refine ⟨perm_of HK.out HND.out h1 h2, ?_, by rw [hb]; exact (HBW.out.trans h3.ko.below).trans h4⟩
      exact congrArg Value.string (eq_of_bl (by rw [bl_app, bl_tx])))
    rcases hrow with rfl | ⟨g, c, fz, rfl, hg, hgb, hcell⟩
    · have hs := Tryz.Builder_String_any_k b b (bl (lower t)) w5 (by exact H5.out.bd) H5.out.ge
      go_wp2_with fail
      refine wp_loop_rounds 1 ?_
      rw [rounds_succ]
      go_wp2_with fail
      refine hs.mono ?_
      rintro e w6 ⟨rfl, _, q2, _⟩
      obtain ⟨r1, r2, r3⟩ := HFIN.out [] w5 w6 (by simp) (by simp) (by simpa [texts] using H5.out) q2
      have R := Lib.hid (And.intro r1 (And.intro r2 r3))
      clear r1 r2 r3 q2 hs
      go_wp2_with fail
      go_ret
      exact ⟨[], R.out.1, by rw [← R.out.2.1]; simp [texts], R.out.2.2⟩
    · have HG := Lib.hid hg
      have HCELL := Lib.hid hcell
      have hgb2 : g ≠ b := by omega
      clear hg hcell
      generalize hn : K.length = n at *
      have HNL := Lib.hid hn
      clear hn
      go_wp2_with fail
      go_loopw [52] (fun i wr => ∃ k : Nat, k ≤ n ∧ i = .int .i64 k ∧ Hid (∃ ps : List Pr, ps.map (·.1) = K.take k ∧ (∀ p ∈ ps, p ∈ E) ∧ Fs b w5 wr (bl (lower t) ++ texts (ps.map fmtW)))) (fun i _ => n - (intOf i).toNat)
      case atStart => exact ⟨0, Nat.zero_le _, rfl, Lib.hid ⟨[], by simp, by simp, by simpa [texts] using H5.out⟩⟩
      case round =>
        obtain ⟨k, hk, rfl, HPS⟩ := hrel
        obtain ⟨ps, hps1, hps2, hfs⟩ := HPS.out
        by_cases hlt : k < n
        · obtain ⟨a, ha⟩ : ∃ a, K[k]? = some a := ⟨K[k]'(by rw [HNL.out]; exact hlt), List.getElem?_eq_getElem _⟩
          have haE : a ∈ E.map (·.1) := HK.out.mem_iff.1 (List.mem_of_getElem? ha)
          obtain ⟨⟨a', v⟩, hpE, rfl⟩ := List.mem_map.1 haE
          simp only at ha
          have htp : a'.size + v.size + 1 ≤ 1048576 := Nat.le_trans (tot_mem hpE) HTOT.out
          have hLl : (bl (lower t) ++ texts (ps.map fmtW)).length ≤ 13194156310528 := by
            have h1 := texts_le (ps := ps) (fun p hp => Nat.le_trans (tot_mem (hps2 p hp)) HTOT.out)
            have h2 := congrArg List.length hps1
            rw [List.length_map, List.length_take] at h2
            rw [List.length_append]
            omega
          have HNX : Hid (∀ (W : World) (m : List UInt8), Fs b w5 W m → m = (bl (lower t) ++ texts (ps.map fmtW)) ++ Wn.text (fmtW (a', v)) → ∃ ps : List Pr, ps.map (·.1) = K.take (k + 1) ∧ (∀ p ∈ ps, p ∈ E) ∧ Fs b w5 W (bl (lower t) ++ texts (ps.map fmtW))) := Lib.hid (by
            rintro W m hW rfl
            refine ⟨ps ++ [(a', v)], ?_, ?_, ?_⟩
            · rw [List.map_append, hps1, List.take_add_one, ha]; rfl
            · intro p hp
              rcases List.mem_append.1 hp with hp | hp
              · exact hps2 p hp
              · simp at hp; subst hp; exact hpE
            · have e : texts ((ps ++ [(a', v)]).map fmtW) = texts (ps.map fmtW) ++ Wn.text (fmtW (a', v)) := by simp [texts]
              rw [e, ← List.append_assoc]
              exact hW)
          have hget := OM.get (p := (a', v)) (hfs.om HO5.out HC5.out) (by show a'.size ≤ _; omega) hpE
          have c0 : wr.cell? ⟨g, k, none⟩ = some (.string a') := by
            rw [Lib.cell_of_heap (hfs.row HG.out hgb2)]
            exact HCELL.out k a' ha
          have hT := HN.out.tok (a', v) hpE
          have h65 := fun W => tok65_any a' W (by omega)
          rw [show isTok a' = true from hT] at h65
          have hlo := g_lower a' (by omega) (tok_ascii hT)
          have hnd := needs_any v
          have HF := Lib.hid hfs
          have hlas : (bl (lower a')).length ≤ 1048576 := by rw [← P.sz, lower_size]; omega
          have hlas2 : (lower a').size ≤ 1048576 := by rw [lower_size]; omega
          clear hps1 hps2 hfs haE hpE ha hT HPS
          generalize bl (lower t) ++ texts (ps.map fmtW) = L at *
          cases hb : printB v with
          | true =>
            cases hk : isTok v with
            | true =>
              have h65v := fun W => tok65_any v W (by omega)
              rw [hk] at h65v
              have HTX := Lib.hid (text_tok (p := (a', v)) hb hk)
              clear hk
              rw [hb] at hnd
              simp only [Bool.not_true] at hnd
              go_wp2_with fail
              refine (wb_any HF.out 59 (by omega) (by first | omega | (simp only [List.length_append, List.length_cons, List.length_nil]; omega))).mono ?_
              rintro e x1 ⟨rfl, f1⟩
              have F1 := Lib.hid f1
              clear f1
              go_wp2_with fail
              refine (wb_any F1.out 32 (by omega) (by first | omega | (simp only [List.length_append, List.length_cons, List.length_nil]; omega))).mono ?_
              rintro e x2 ⟨rfl, f2⟩
              have F2 := Lib.hid f2
              clear f2
              go_wp2_with fail
              refine (h65 x2).mono ?_
              rintro e x3 ⟨rfl, g3⟩
              have F3 := Lib.hid (F2.out.call g3)
              clear g3
              go_wp2_with fail
              refine (hlo x3).mono ?_
              rintro e x4 ⟨rfl, g4⟩
              have F4 := Lib.hid (F3.out.call g4)
              clear g4
              go_wp2_with fail
              refine (ws_any F4.out (lower a') (by first | omega | (simp only [List.length_append, List.length_cons, List.length_nil]; omega)) (by omega)).mono ?_
              rintro e x5 ⟨rfl, f5⟩
              have F5 := Lib.hid f5
              clear f5
              go_wp2_with fail
              refine (hnd x5).mono ?_
              rintro e x6 ⟨rfl, g6⟩
              have F6 := Lib.hid (F5.out.call g6)
              clear g6
              go_wp2_with fail
              refine (wb_any F6.out 61 (by omega) (by first | omega | (simp only [List.length_append, List.length_cons, List.length_nil]; omega))).mono ?_
              rintro e x7 ⟨rfl, f7⟩
              have F7 := Lib.hid f7
              clear f7
              go_wp2_with fail
              refine (h65v x7).mono ?_
              rintro e x8 ⟨rfl, g8⟩
              have F8 := Lib.hid (F7.out.call g8)
              clear g8
              go_wp2_with fail
              refine (ws_any F8.out v (by first | omega | (simp only [List.length_append, List.length_cons, List.length_nil]; omega)) (by omega)).mono ?_
              rintro e x9 ⟨rfl, f9⟩
              have F9 := Lib.hid f9
              clear f9
              clear hb
              go_wp2_with fail
              exact ⟨⟨k + 1, by omega, by go_num, Lib.hid (HNX.out _ _ F9.out (by rw [HTX.out]; simp only [List.append_assoc]; rfl))⟩, by simp [intOf]; omega⟩
            | false =>
              have h65v := fun W => tok65_any v W (by omega)
              rw [hk] at h65v
              have HTX := Lib.hid (text_quo (p := (a', v)) hb hk)
              clear hk
              rw [hb] at hnd
              simp only [Bool.not_true] at hnd
              go_wp2_with fail
              refine (wb_any HF.out 59 (by omega) (by first | omega | (simp only [List.length_append, List.length_cons, List.length_nil]; omega))).mono ?_
              rintro e x1 ⟨rfl, f1⟩
              have F1 := Lib.hid f1
              clear f1
              go_wp2_with fail
              refine (wb_any F1.out 32 (by omega) (by first | omega | (simp only [List.length_append, List.length_cons, List.length_nil]; omega))).mono ?_
              rintro e x2 ⟨rfl, f2⟩
              have F2 := Lib.hid f2
              clear f2
              go_wp2_with fail
              refine (h65 x2).mono ?_
              rintro e x3 ⟨rfl, g3⟩
              have F3 := Lib.hid (F2.out.call g3)
              clear g3
              go_wp2_with fail
              refine (hlo x3).mono ?_
              rintro e x4 ⟨rfl, g4⟩
              have F4 := Lib.hid (F3.out.call g4)
              clear g4
              go_wp2_with fail
              refine (ws_any F4.out (lower a') (by first | omega | (simp only [List.length_append, List.length_cons, List.length_nil]; omega)) (by omega)).mono ?_
              rintro e x5 ⟨rfl, f5⟩
              have F5 := Lib.hid f5
              clear f5
              go_wp2_with fail
              refine (hnd x5).mono ?_
              rintro e x6 ⟨rfl, g6⟩
              have F6 := Lib.hid (F5.out.call g6)
              clear g6
              go_wp2_with fail
              refine (wb_any F6.out 61 (by omega) (by first | omega | (simp only [List.length_append, List.length_cons, List.length_nil]; omega))).mono ?_
              rintro e x7 ⟨rfl, f7⟩
              have F7 := Lib.hid f7
              clear f7
              go_wp2_with fail
              refine (h65v x7).mono ?_
              rintro e x8 ⟨rfl, g8⟩
              have F8 := Lib.hid (F7.out.call g8)
              clear g8
              go_wp2_with fail
              refine (wb_any F8.out 34 (by omega) (by first | omega | (simp only [List.length_append, List.length_cons, List.length_nil]; omega))).mono ?_
              rintro e x9 ⟨rfl, f9⟩
              have F9 := Lib.hid f9
              clear f9
              clear hb
              generalize hA : L ++ [UInt8.ofNat 59] ++ [UInt8.ofNat 32] ++ bl (lower a') ++ [UInt8.ofNat 61] ++ [UInt8.ofNat 34] = A at *
              have hAl : A.length ≤ 13194158407680 := by rw [← hA]; simp only [List.length_append, List.length_cons, List.length_nil]; omega
              have HA := Lib.hid hA
              clear hA
              go_wp2_with fail
              go_loopw [16, 17] (fun o i wr => ∃ (off idx : Nat) (m : List UInt8), o = .int .i64 off ∧ i = .int .i64 idx ∧ off ≤ idx ∧ idx ≤ v.size ∧ Hid (Iv qb A v off idx m) ∧ Hid (Fs b w5 wr m)) (fun _ i _ => v.size - (intOf i).toNat)
              case atStart => exact ⟨0, 0, A, rfl, rfl, Nat.le_refl _, Nat.zero_le _, Lib.hid (Iv.start rfl A v), F9⟩
              case round =>
                obtain ⟨off, idx, m, rfl, rfl, hoi, hix, HI, HM⟩ := hrel
                have hml := HI.out.len qb_le3
                obtain ⟨hxl, hxs⟩ := ext_sz v off idx
                by_cases hlt2 : idx < v.size
                · have bd := v[idx].toNat_lt
                  have hqa := qb_at hlt2
                  by_cases h34 : v[idx] = 34
                  · have b1 : ((v[idx].toNat : Int) == 34) = true := by rw [h34]; rfl
                    have hq2 : qb [v[idx]] = [92, v[idx]] := by rw [h34]; rfl
                    rw [hq2] at hqa
                    have HQA := Lib.hid hqa
                    clear hqa hq2 h34
                    go_wp2_with fail
                    refine (ws_any HM.out (v.extract off idx) (by first | omega | (simp only [List.length_append, List.length_cons, List.length_nil]; omega)) (by omega)).mono ?_
                    rintro e y1 ⟨rfl, f11⟩
                    have F11 := Lib.hid f11
                    clear f11
                    go_wp2_with fail
                    refine (wb_any F11.out 92 (by omega) (by first | omega | (simp only [List.length_append]; omega))).mono ?_
                    rintro e y2 ⟨rfl, f12⟩
                    have F12 := Lib.hid f12
                    clear f12
                    go_wp2_with fail
                    exact ⟨⟨idx, idx + 1, _, by go_num, by go_num, by omega, by omega, Lib.hid (HI.out.ahead hlt2 HQA.out (by rw [ext_bl]; rfl)), F12⟩, by simp [intOf]; omega⟩
                  have b1 : ((v[idx].toNat : Int) == 34) = false := by rw [beq_eq_false_iff_ne]; intro e; exact h34 (UInt8.toNat_inj.1 (by simpa using Int.ofNat.inj e))
                  by_cases h92 : v[idx] = 92
                  · have b2 : ((v[idx].toNat : Int) == 92) = true := by rw [h92]; rfl
                    have hq2 : qb [v[idx]] = [92, v[idx]] := by rw [h92]; rfl
                    rw [hq2] at hqa
                    have HQA := Lib.hid hqa
                    clear hqa hq2 h92
                    go_wp2_with fail
                    refine (ws_any HM.out (v.extract off idx) (by first | omega | (simp only [List.length_append, List.length_cons, List.length_nil]; omega)) (by omega)).mono ?_
                    rintro e y1 ⟨rfl, f11⟩
                    have F11 := Lib.hid f11
                    clear f11
                    go_wp2_with fail
                    refine (wb_any F11.out 92 (by omega) (by first | omega | (simp only [List.length_append]; omega))).mono ?_
                    rintro e y2 ⟨rfl, f12⟩
                    have F12 := Lib.hid f12
                    clear f12
                    go_wp2_with fail
                    exact ⟨⟨idx, idx + 1, _, by go_num, by go_num, by omega, by omega, Lib.hid (HI.out.ahead hlt2 HQA.out (by rw [ext_bl]; rfl)), F12⟩, by simp [intOf]; omega⟩
                  have b2 : ((v[idx].toNat : Int) == 92) = false := by rw [beq_eq_false_iff_ne]; intro e; exact h92 (UInt8.toNat_inj.1 (by simpa using Int.ofNat.inj e))
                  have hq2 : qb [v[idx]] = [v[idx]] := by simp only [qb]; rw [if_neg (by rintro (h | h); exact h92 h; exact h34 h)]
                  rw [hq2] at hqa
                  have HQA := Lib.hid hqa
                  clear hqa hq2 h34 h92
                  go_wp2_with fail
                  exact ⟨⟨off, idx + 1, m, rfl, by go_num, by omega, by omega, Lib.hid (HI.out.same hlt2 HQA.out), HM⟩, by simp [intOf]; omega⟩
                · obtain rfl : idx = v.size := by omega
                  go_wp2_with fail
                  refine (ws_any HM.out (v.extract off v.size) (by first | omega | (simp only [List.length_append, List.length_cons, List.length_nil]; omega)) (by omega)).mono ?_
                  rintro e y1 ⟨rfl, f11⟩
                  have F11 := Lib.hid f11
                  clear f11
                  go_wp2_with fail
                  have F12 : Hid (Fs b w5 y1 (A ++ qb (bl v))) := Lib.hid (by have := F11.out; rw [ext_end, HI.out.done_] at this; exact this)
                  have hql := qb_le3 (bl v)
                  rw [← P.sz] at hql
                  refine (wb_any F12.out 34 (by omega) (by first | omega | (simp only [List.length_append]; omega))).mono ?_
                  rintro e y2 ⟨rfl, f13⟩
                  have F13 := Lib.hid f13
                  clear f13
                  go_wp2_with fail
                  exact ⟨⟨k + 1, by omega, by go_num, Lib.hid (HNX.out _ _ F13.out (by rw [HTX.out, ← HA.out]; simp only [List.append_assoc]; rfl))⟩, by simp [intOf]; omega⟩
          | false =>
            have HTX := Lib.hid (text_ext (p := (a', v)) hb)
            rw [hb] at hnd
            simp only [Bool.not_false] at hnd
            go_wp2_with fail
            refine (wb_any HF.out 59 (by omega) (by first | omega | (simp only [List.length_append, List.length_cons, List.length_nil]; omega))).mono ?_
            rintro e x1 ⟨rfl, f1⟩
            have F1 := Lib.hid f1
            clear f1
            go_wp2_with fail
            refine (wb_any F1.out 32 (by omega) (by first | omega | (simp only [List.length_append, List.length_cons, List.length_nil]; omega))).mono ?_
            rintro e x2 ⟨rfl, f2⟩
            have F2 := Lib.hid f2
            clear f2
            go_wp2_with fail
            refine (h65 x2).mono ?_
            rintro e x3 ⟨rfl, g3⟩
            have F3 := Lib.hid (F2.out.call g3)
            clear g3
            go_wp2_with fail
            refine (hlo x3).mono ?_
            rintro e x4 ⟨rfl, g4⟩
            have F4 := Lib.hid (F3.out.call g4)
            clear g4
            go_wp2_with fail
            refine (ws_any F4.out (lower a') (by first | omega | (simp only [List.length_append, List.length_cons, List.length_nil]; omega)) (by omega)).mono ?_
            rintro e x5 ⟨rfl, f5⟩
            have F5 := Lib.hid f5
            clear f5
            go_wp2_with fail
            refine (hnd x5).mono ?_
            rintro e x6 ⟨rfl, g6⟩
            have F6 := Lib.hid (F5.out.call g6)
            clear g6
            go_wp2_with fail
            refine (wb_any F6.out 42 (by omega) (by first | omega | (simp only [List.length_append, List.length_cons, List.length_nil]; omega))).mono ?_
            rintro e x7 ⟨rfl, f7⟩
            have F7 := Lib.hid f7
            clear f7
            go_wp2_with fail
            refine (wb_any F7.out 61 (by omega) (by first | omega | (simp only [List.length_append, List.length_cons, List.length_nil]; omega))).mono ?_
            rintro e x8 ⟨rfl, f8⟩
            have F8 := Lib.hid f8
            clear f8
            go_wp2_with fail
            refine (ws_any F8.out ⟨#[117, 116, 102, 45, 56, 39, 39]⟩ (by first | omega | (simp only [List.length_append, List.length_cons, List.length_nil]; omega)) (by decide)).mono ?_
            rintro e x9 ⟨rfl, f9⟩
            have F9 := Lib.hid f9
            clear f9
            clear hb
            have h7 : (bl (⟨#[117, 116, 102, 45, 56, 39, 39]⟩ : ByteArray)).length = 7 := rfl
            generalize hA : L ++ [UInt8.ofNat 59] ++ [UInt8.ofNat 32] ++ bl (lower a') ++ [UInt8.ofNat 42] ++ [UInt8.ofNat 61] ++ bl (⟨#[117, 116, 102, 45, 56, 39, 39]⟩ : ByteArray) = A at *
            have hAl : A.length ≤ 13194158407680 := by rw [← hA]; simp only [List.length_append, List.length_cons, List.length_nil]; omega
            have HA := Lib.hid hA
            clear hA
            go_wp2_with fail
            go_loopw [13, 14] (fun o i wr => ∃ (off idx : Nat) (m : List UInt8), o = .int .i64 off ∧ i = .int .i64 idx ∧ off ≤ idx ∧ idx ≤ v.size ∧ Hid (Iv esc A v off idx m) ∧ Hid (Fs b w5 wr m)) (fun _ i _ => v.size - (intOf i).toNat)
            case atStart => exact ⟨0, 0, A, rfl, rfl, Nat.le_refl _, Nat.zero_le _, Lib.hid (Iv.start rfl A v), F9⟩
            case round =>
              obtain ⟨off, idx, m, rfl, rfl, hoi, hix, HI, HM⟩ := hrel
              have hml := HI.out.len esc_le3
              obtain ⟨hxl, hxs⟩ := ext_sz v off idx
              by_cases hlt2 : idx < v.size
              · have bd := v[idx].toNat_lt
                have hea := esc_at hlt2
                have hsp := fun W => special_any v[idx].toNat bd W
                have hx0 : v[idx].toNat / 16 < 16 := by omega
                have hx1 : v[idx].toNat % 16 < 16 := by omega
                by_cases h32 : (v[idx].toNat : Int) ≤ 32
                · have b1 : decide ((v[idx].toNat : Int) ≤ 32) = true := decide_eq_true h32
                  have ha : attr v[idx] = false := by unfold attr tokB; have h9 : ¬ 32 < v[idx].toNat := (by omega); simp [h9]
                  rw [esc1_no ha] at hea
                  have HEA := Lib.hid hea
                  clear hea ha h32
                  go_wp2_with fail
                  refine (ws_any HM.out (v.extract off idx) (by first | omega | (simp only [List.length_append, List.length_cons, List.length_nil]; omega)) (by omega)).mono ?_
                  rintro e y1 ⟨rfl, f11⟩
                  have F11 := Lib.hid f11
                  clear f11
                  go_wp2_with fail
                  refine (wb_any F11.out 37 (by omega) (by first | omega | (simp only [List.length_append]; omega))).mono ?_
                  rintro e y2 ⟨rfl, f12⟩
                  have F12 := Lib.hid f12
                  clear f12
                  go_wp2_with fail
                  refine (wb_any F12.out _ (UInt8.toNat_lt _) (by first | omega | (simp only [List.length_append, List.length_cons, List.length_nil]; omega))).mono ?_
                  rintro e y3 ⟨rfl, f13⟩
                  rw [dig] at f13
                  have F13 := Lib.hid f13
                  clear f13
                  go_wp2_with fail
                  refine (wb_any F13.out _ (UInt8.toNat_lt _) (by first | omega | (simp only [List.length_append, List.length_cons, List.length_nil]; omega))).mono ?_
                  rintro e y4 ⟨rfl, f14⟩
                  rw [dig] at f14
                  have F14 := Lib.hid f14
                  clear f14
                  go_wp2_with fail
                  exact ⟨⟨idx + 1, idx + 1, _, by go_num, by go_num, Nat.le_refl _, by omega, Lib.hid (HI.out.turn hlt2 HEA.out (by rw [ext_bl]; simp only [List.append_assoc]; rfl)), F14⟩, by simp [intOf]; omega⟩
                have b1 : decide ((v[idx].toNat : Int) ≤ 32) = false := decide_eq_false h32
                by_cases h127 : (127 : Int) ≤ v[idx].toNat
                · have b2 : decide ((127 : Int) ≤ v[idx].toNat) = true := decide_eq_true h127
                  have ha : attr v[idx] = false := by unfold attr tokB; have h9 : ¬ v[idx].toNat < 127 := (by omega); simp [h9]
                  rw [esc1_no ha] at hea
                  have HEA := Lib.hid hea
                  clear hea ha h127
                  go_wp2_with fail
                  refine (ws_any HM.out (v.extract off idx) (by first | omega | (simp only [List.length_append, List.length_cons, List.length_nil]; omega)) (by omega)).mono ?_
                  rintro e y1 ⟨rfl, f11⟩
                  have F11 := Lib.hid f11
                  clear f11
                  go_wp2_with fail
                  refine (wb_any F11.out 37 (by omega) (by first | omega | (simp only [List.length_append]; omega))).mono ?_
                  rintro e y2 ⟨rfl, f12⟩
                  have F12 := Lib.hid f12
                  clear f12
                  go_wp2_with fail
                  refine (wb_any F12.out _ (UInt8.toNat_lt _) (by first | omega | (simp only [List.length_append, List.length_cons, List.length_nil]; omega))).mono ?_
                  rintro e y3 ⟨rfl, f13⟩
                  rw [dig] at f13
                  have F13 := Lib.hid f13
                  clear f13
                  go_wp2_with fail
                  refine (wb_any F13.out _ (UInt8.toNat_lt _) (by first | omega | (simp only [List.length_append, List.length_cons, List.length_nil]; omega))).mono ?_
                  rintro e y4 ⟨rfl, f14⟩
                  rw [dig] at f14
                  have F14 := Lib.hid f14
                  clear f14
                  go_wp2_with fail
                  exact ⟨⟨idx + 1, idx + 1, _, by go_num, by go_num, Nat.le_refl _, by omega, Lib.hid (HI.out.turn hlt2 HEA.out (by rw [ext_bl]; simp only [List.append_assoc]; rfl)), F14⟩, by simp [intOf]; omega⟩
                have b2 : decide ((127 : Int) ≤ v[idx].toNat) = false := decide_eq_false h127
                by_cases h42 : v[idx] = 42
                · have c42 : ((v[idx].toNat : Int) == 42) = true := by rw [h42]; rfl
                  have ha : attr v[idx] = false := by rw [h42]; decide
                  rw [esc1_no ha] at hea
                  have HEA := Lib.hid hea
                  clear hea ha h42
                  go_wp2_with fail
                  refine (ws_any HM.out (v.extract off idx) (by first | omega | (simp only [List.length_append, List.length_cons, List.length_nil]; omega)) (by omega)).mono ?_
                  rintro e y1 ⟨rfl, f11⟩
                  have F11 := Lib.hid f11
                  clear f11
                  go_wp2_with fail
                  refine (wb_any F11.out 37 (by omega) (by first | omega | (simp only [List.length_append]; omega))).mono ?_
                  rintro e y2 ⟨rfl, f12⟩
                  have F12 := Lib.hid f12
                  clear f12
                  go_wp2_with fail
                  refine (wb_any F12.out _ (UInt8.toNat_lt _) (by first | omega | (simp only [List.length_append, List.length_cons, List.length_nil]; omega))).mono ?_
                  rintro e y3 ⟨rfl, f13⟩
                  rw [dig] at f13
                  have F13 := Lib.hid f13
                  clear f13
                  go_wp2_with fail
                  refine (wb_any F13.out _ (UInt8.toNat_lt _) (by first | omega | (simp only [List.length_append, List.length_cons, List.length_nil]; omega))).mono ?_
                  rintro e y4 ⟨rfl, f14⟩
                  rw [dig] at f14
                  have F14 := Lib.hid f14
                  clear f14
                  go_wp2_with fail
                  exact ⟨⟨idx + 1, idx + 1, _, by go_num, by go_num, Nat.le_refl _, by omega, Lib.hid (HI.out.turn hlt2 HEA.out (by rw [ext_bl]; simp only [List.append_assoc]; rfl)), F14⟩, by simp [intOf]; omega⟩
                have c42 : ((v[idx].toNat : Int) == 42) = false := by rw [beq_eq_false_iff_ne]; intro e; exact h42 (UInt8.toNat_inj.1 (by simpa using Int.ofNat.inj e))
                by_cases h39 : v[idx] = 39
                · have c39 : ((v[idx].toNat : Int) == 39) = true := by rw [h39]; rfl
                  have ha : attr v[idx] = false := by rw [h39]; decide
                  rw [esc1_no ha] at hea
                  have HEA := Lib.hid hea
                  clear hea ha h39
                  go_wp2_with fail
                  refine (ws_any HM.out (v.extract off idx) (by first | omega | (simp only [List.length_append, List.length_cons, List.length_nil]; omega)) (by omega)).mono ?_
                  rintro e y1 ⟨rfl, f11⟩
                  have F11 := Lib.hid f11
                  clear f11
                  go_wp2_with fail
                  refine (wb_any F11.out 37 (by omega) (by first | omega | (simp only [List.length_append]; omega))).mono ?_
                  rintro e y2 ⟨rfl, f12⟩
                  have F12 := Lib.hid f12
                  clear f12
                  go_wp2_with fail
                  refine (wb_any F12.out _ (UInt8.toNat_lt _) (by first | omega | (simp only [List.length_append, List.length_cons, List.length_nil]; omega))).mono ?_
                  rintro e y3 ⟨rfl, f13⟩
                  rw [dig] at f13
                  have F13 := Lib.hid f13
                  clear f13
                  go_wp2_with fail
                  refine (wb_any F13.out _ (UInt8.toNat_lt _) (by first | omega | (simp only [List.length_append, List.length_cons, List.length_nil]; omega))).mono ?_
                  rintro e y4 ⟨rfl, f14⟩
                  rw [dig] at f14
                  have F14 := Lib.hid f14
                  clear f14
                  go_wp2_with fail
                  exact ⟨⟨idx + 1, idx + 1, _, by go_num, by go_num, Nat.le_refl _, by omega, Lib.hid (HI.out.turn hlt2 HEA.out (by rw [ext_bl]; simp only [List.append_assoc]; rfl)), F14⟩, by simp [intOf]; omega⟩
                have c39 : ((v[idx].toNat : Int) == 39) = false := by rw [beq_eq_false_iff_ne]; intro e; exact h39 (UInt8.toNat_inj.1 (by simpa using Int.ofNat.inj e))
                by_cases h37 : v[idx] = 37
                · have c37 : ((v[idx].toNat : Int) == 37) = true := by rw [h37]; rfl
                  have ha : attr v[idx] = false := by rw [h37]; decide
                  rw [esc1_no ha] at hea
                  have HEA := Lib.hid hea
                  clear hea ha h37
                  go_wp2_with fail
                  refine (ws_any HM.out (v.extract off idx) (by first | omega | (simp only [List.length_append, List.length_cons, List.length_nil]; omega)) (by omega)).mono ?_
                  rintro e y1 ⟨rfl, f11⟩
                  have F11 := Lib.hid f11
                  clear f11
                  go_wp2_with fail
                  refine (wb_any F11.out 37 (by omega) (by first | omega | (simp only [List.length_append]; omega))).mono ?_
                  rintro e y2 ⟨rfl, f12⟩
                  have F12 := Lib.hid f12
                  clear f12
                  go_wp2_with fail
                  refine (wb_any F12.out _ (UInt8.toNat_lt _) (by first | omega | (simp only [List.length_append, List.length_cons, List.length_nil]; omega))).mono ?_
                  rintro e y3 ⟨rfl, f13⟩
                  rw [dig] at f13
                  have F13 := Lib.hid f13
                  clear f13
                  go_wp2_with fail
                  refine (wb_any F13.out _ (UInt8.toNat_lt _) (by first | omega | (simp only [List.length_append, List.length_cons, List.length_nil]; omega))).mono ?_
                  rintro e y4 ⟨rfl, f14⟩
                  rw [dig] at f14
                  have F14 := Lib.hid f14
                  clear f14
                  go_wp2_with fail
                  exact ⟨⟨idx + 1, idx + 1, _, by go_num, by go_num, Nat.le_refl _, by omega, Lib.hid (HI.out.turn hlt2 HEA.out (by rw [ext_bl]; simp only [List.append_assoc]; rfl)), F14⟩, by simp [intOf]; omega⟩
                have c37 : ((v[idx].toNat : Int) == 37) = false := by rw [beq_eq_false_iff_ne]; intro e; exact h37 (UInt8.toNat_inj.1 (by simpa using Int.ofNat.inj e))
                cases hs : spcl v[idx].toNat with
                | true =>
                  rw [hs] at hsp
                  have ha : attr v[idx] = false := by unfold attr tokB; rw [hs]; simp
                  rw [esc1_no ha] at hea
                  have HEA := Lib.hid hea
                  clear hea ha hs h42 h39 h37
                  go_wp2_with fail
                  refine (hsp _).mono ?_
                  rintro e y0 ⟨rfl, rfl⟩
                  go_wp2_with fail
                  refine (ws_any HM.out (v.extract off idx) (by first | omega | (simp only [List.length_append, List.length_cons, List.length_nil]; omega)) (by omega)).mono ?_
                  rintro e y1 ⟨rfl, f11⟩
                  have F11 := Lib.hid f11
                  clear f11
                  go_wp2_with fail
                  refine (wb_any F11.out 37 (by omega) (by first | omega | (simp only [List.length_append]; omega))).mono ?_
                  rintro e y2 ⟨rfl, f12⟩
                  have F12 := Lib.hid f12
                  clear f12
                  go_wp2_with fail
                  refine (wb_any F12.out _ (UInt8.toNat_lt _) (by first | omega | (simp only [List.length_append, List.length_cons, List.length_nil]; omega))).mono ?_
                  rintro e y3 ⟨rfl, f13⟩
                  rw [dig] at f13
                  have F13 := Lib.hid f13
                  clear f13
                  go_wp2_with fail
                  refine (wb_any F13.out _ (UInt8.toNat_lt _) (by first | omega | (simp only [List.length_append, List.length_cons, List.length_nil]; omega))).mono ?_
                  rintro e y4 ⟨rfl, f14⟩
                  rw [dig] at f14
                  have F14 := Lib.hid f14
                  clear f14
                  go_wp2_with fail
                  exact ⟨⟨idx + 1, idx + 1, _, by go_num, by go_num, Nat.le_refl _, by omega, Lib.hid (HI.out.turn hlt2 HEA.out (by rw [ext_bl]; simp only [List.append_assoc]; rfl)), F14⟩, by simp [intOf]; omega⟩
                | false =>
                  rw [hs] at hsp
                  have ha : attr v[idx] = true := by unfold attr tokB; rw [hs]; have h1 : 32 < v[idx].toNat := (by omega); have h2 : v[idx].toNat < 127 := (by omega); simp [h1, h2, h42, h39, h37]
                  rw [esc1_yes ha] at hea
                  have HEA := Lib.hid hea
                  clear hea ha hs h42 h39 h37
                  go_wp2_with fail
                  refine (hsp _).mono ?_
                  rintro e y0 ⟨rfl, rfl⟩
                  go_wp2_with fail
                  exact ⟨⟨off, idx + 1, m, rfl, by go_num, by omega, by omega, Lib.hid (HI.out.same hlt2 HEA.out), HM⟩, by simp [intOf]; omega⟩
              · obtain rfl : idx = v.size := by omega
                go_wp2_with fail
                refine (ws_any HM.out (v.extract off v.size) (by first | omega | (simp only [List.length_append, List.length_cons, List.length_nil]; omega)) (by omega)).mono ?_
                rintro e y1 ⟨rfl, f11⟩
                have F11 := Lib.hid f11
                clear f11
                go_wp2_with fail
                have F12 : Hid (Fs b w5 y1 (A ++ esc (bl v))) := Lib.hid (by have := F11.out; rw [ext_end, HI.out.done_] at this; exact this)
                exact ⟨⟨k + 1, by omega, by go_num, Lib.hid (HNX.out _ _ F12.out (by rw [HTX.out, ← HA.out]; simp only [List.append_assoc]; rfl))⟩, by simp [intOf]; omega⟩
        · obtain rfl : k = n := by omega
          have hs := Tryz.Builder_String_any_k b b _ wr (by exact hfs.bd) hfs.ge
          have HFN := Lib.hid (fun W' => HFIN.out ps wr W' (by rw [hps1, List.take_of_length_le (by rw [HNL.out]; exact Nat.le_refl _)]) hps2 hfs)
          clear hps1 hps2 hfs HPS
          go_wp2_with fail
          refine hs.mono ?_
          rintro e w6 ⟨rfl, _, q2, _⟩
          have R := Lib.hid (HFN.out w6 q2)
          clear q2 hs HFN
          go_wp2_with fail
          go_ret
          exact ⟨ps, R.out.1, by rw [← R.out.2.1]; rfl, R.out.2.2⟩
end Go.Proofs.YtbklpdcipfhdjaaGreatDoor.Fm
