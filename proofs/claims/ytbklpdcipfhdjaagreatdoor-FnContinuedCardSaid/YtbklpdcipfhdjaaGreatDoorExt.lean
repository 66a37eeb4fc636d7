/- The walk of FnContinuedExtended: it returns true. -/
import Derived.Test.YtbklpdcipfhdjaaGreatDoorPx
import Derived.Test.YtbklpdcipfhdjaaGreatDoorEs
namespace Go.Proofs.YtbklpdcipfhdjaaGreatDoor.Ext
open Go.RowKit Go.Maps Go.Sort Go.Lib Go.Proofs.YtbklpdcipfhdjaaGreatDoor.G Go.Proofs.YtbklpdcipfhdjaaGreatDoor.H Go.Proofs.YtbklpdcipfhdjaaGreatDoor.P Go.Proofs.YtbklpdcipfhdjaaGreatDoor.Q Go.Proofs.YtbklpdcipfhdjaaGreatDoor.T Go.Proofs.YtbklpdcipfhdjaaGreatDoor.W Go.Proofs.YtbklpdcipfhdjaaGreatDoor.X Go.Proofs.YtbklpdcipfhdjaaGreatDoor.Y Go.Proofs.YtbklpdcipfhdjaaGreatDoor.Pe Go.Proofs.YtbklpdcipfhdjaaGreatDoor.E Go.Proofs.YtbklpdcipfhdjaaGreatDoor.R Go.Proofs.YtbklpdcipfhdjaaGreatDoor.Cm Go.Proofs.YtbklpdcipfhdjaaGreatDoor.Pk Go.Proofs.YtbklpdcipfhdjaaGreatDoor.Pm Go.Proofs.YtbklpdcipfhdjaaGreatDoor.Gp Go.Proofs.YtbklpdcipfhdjaaGreatDoor.Rd Go.Proofs.YtbklpdcipfhdjaaGreatDoor.Pa Go.Proofs.YtbklpdcipfhdjaaGreatDoor.Srt Go.Proofs.YtbklpdcipfhdjaaGreatDoor.Gd Go.Proofs.YtbklpdcipfhdjaaGreatDoor.Uq Go.Proofs.YtbklpdcipfhdjaaGreatDoor.It Go.Proofs.YtbklpdcipfhdjaaGreatDoor.S Go.Proofs.YtbklpdcipfhdjaaGreatDoor.C Go.Proofs.YtbklpdcipfhdjaaGreatDoor.A Go.Proofs.YtbklpdcipfhdjaaGreatDoor.Og Go.Proofs.YtbklpdcipfhdjaaGreatDoor.Ec Go.Proofs.YtbklpdcipfhdjaaGreatDoor.Dc Go.Proofs.YtbklpdcipfhdjaaGreatDoor.Sl Go.Proofs.YtbklpdcipfhdjaaGreatDoor.F Go.Proofs.YtbklpdcipfhdjaaGreatDoor.Pn Go.Proofs.YtbklpdcipfhdjaaGreatDoor.Px Go.Proofs.YtbklpdcipfhdjaaGreatDoor.Es Go.Proofs.YtbklpdcipfhdjaaGreatDoor.J

/-- A list of texts as a slice: nil, or in a row. -/
def Sv (ao : Option Addr) (l : List ByteArray) (w : World) : Prop := l = [] ∨ ∃ b off, ao = some ⟨b, off, none⟩ ∧ RowS w b off l
theorem Sv.below {ao : Option Addr} {l : List ByteArray} {w w' : World} (h : Sv ao l w) (hb : Below w.heap.size w w') : Sv ao l w' := by
  rcases h with h | ⟨b, off, h1, h2⟩
  · exact .inl h
  · exact .inr ⟨b, off, h1, h2.below hb⟩
theorem fits7_sv {ao : Option Addr} {cap : Nat} {l : List ByteArray} {w : World} (h : Sv ao l w) :
    Calls Tryz.prog 17 #[.slice ao l.length cap] w fun e w' => (∃ v, e = .returned (.bool v) ∧ (v = true → l.length ≤ 2147483647)) ∧ Below w.heap.size w w' := by
  rcases h with rfl | ⟨b, off, rfl, h⟩
  · refine (fits7_none ao cap w).mono ?_
    rintro e w' ⟨⟨v, rfl⟩, hb⟩
    exact ⟨⟨v, rfl, fun _ => by simp⟩, hb⟩
  · exact fits7_row b off cap l w h
theorem brief_sv {ao : Option Addr} {cap : Nat} {l : List ByteArray} {w : World} (h : Sv ao l w) (hl : l.length ≤ 2147483647) :
    Calls Tryz.prog 18 #[.slice ao l.length cap] w fun e w' => (∃ v, e = .returned (.bool v) ∧ (v = true → BriefP l)) ∧ Below w.heap.size w w' := by
  rcases h with rfl | ⟨b, off, rfl, h⟩
  · refine (brief_none ao cap w).mono ?_
    rintro e w' ⟨⟨v, rfl⟩, hb⟩
    exact ⟨⟨v, rfl, fun _ => ⟨by simp, by simp⟩⟩, hb⟩
  · exact brief_row b off cap l w hl h
/-- A slice of one pair, as the law makes it. -/
theorem one_row (w : World) (a b : ByteArray) : RowP (w.alloc (.cells #[.string a, .string b] 38)) w.heap.size 0 [(a, b)] := by
  intro i x hx
  match i, hx with
  | 0, hx =>
    simp at hx
    subst hx
    exact ⟨by rw [Lib.cell_of_heap (heap_alloc_new w _)]; rfl, by rw [Lib.cell_of_heap (heap_alloc_new w _)]; rfl⟩
theorem names_one (name : ByteArray) (w : World) (hn : name.size ≤ 1099511627776) :
    Calls Tryz.prog 19 #[.slice (some ⟨w.heap.size, 0, none⟩) 1 1] (w.alloc (.cells #[.string name, .string ⟨#[]⟩] 38)) fun e w' => (∃ v, e = .returned (.bool v) ∧ (v = true → isTok name = true ∧ (42 : UInt8) ∉ bl name)) ∧ Below w.heap.size w w' := by
  refine (names_row w.heap.size 0 1 [(name, ⟨#[]⟩)] _ (by simp) (by simp) (by simpa using hn) (one_row w name ⟨#[]⟩)).mono ?_
  rintro e w' ⟨⟨v, rfl, hv⟩, hb⟩
  refine ⟨⟨v, rfl, fun h => ⟨(hv h).tok (name, ⟨#[]⟩) (by simp), ?_⟩⟩, chain ((Below.refl _ w).alloc (Nat.le_refl _) _) hb⟩
  have h1 := (hv h).star (name, ⟨#[]⟩) (by simp)
  intro h2
  have h3 : has name 42 = true := List.any_eq_true.2 ⟨42, h2, by decide⟩
  rw [h3] at h1
  cases h1

set_option maxHeartbeats 1000000 in
set_option maxRecDepth 100000 in
theorem ext_any (e0 e1 : Value) (t name : ByteArray) (ao : Option Addr) (cap : Nat) (l : List ByteArray) (w : World) (hE : Env e0 e1 w) (hL : Sv ao l w) :
    Calls Tryz.prog 5 #[.string t, .string name, .slice ao l.length cap] w fun e w' => e = .returned (.bool true) ∧ Below w.heap.size w w' := by
  have HL := Lib.hid hL
  have HE := Lib.hid hE
  have hfits := fits7_sv (cap := cap) hL
  clear hL hE
  go_enter Tryz.func5, Tryz.ntmps5
  by_cases ht1 : (2147483647 : Int) < t.size
  · have b1 : decide ((2147483647 : Int) < t.size) = true := decide_eq_true ht1
    go_wp2_with fail
    go_ret
    exact ⟨rfl, Below.refl _ _⟩
  have b1 : decide ((2147483647 : Int) < t.size) = false := decide_eq_false ht1
  by_cases hn1 : (2147483647 : Int) < name.size
  · have b2 : decide ((2147483647 : Int) < name.size) = true := decide_eq_true hn1
    go_wp2_with fail
    go_ret
    exact ⟨rfl, Below.refl _ _⟩
  have b2 : decide ((2147483647 : Int) < name.size) = false := decide_eq_false hn1
  go_wp2_with fail
  refine hfits.mono ?_
  clear hfits
  rintro e w1 ⟨⟨v, rfl, hv⟩, g1⟩
  have HB1 := Lib.hid g1
  clear g1
  cases v with
  | false =>
    go_wp2_with fail
    go_ret
    exact ⟨rfl, HB1.out⟩
  | true =>
    have hl1 : l.length ≤ 2147483647 := hv rfl
    clear hv
    have hbr := brief_sv (cap := cap) (HL.out.below HB1.out) hl1
    by_cases ht2 : (16777216 : Int) < t.size
    · have b3 : decide ((16777216 : Int) < t.size) = true := decide_eq_true ht2
      go_wp2_with fail
      go_ret
      exact ⟨rfl, HB1.out⟩
    have b3 : decide ((16777216 : Int) < t.size) = false := decide_eq_false ht2
    by_cases hn2 : (16777216 : Int) < name.size
    · have b4 : decide ((16777216 : Int) < name.size) = true := decide_eq_true hn2
      go_wp2_with fail
      go_ret
      exact ⟨rfl, HB1.out⟩
    have b4 : decide ((16777216 : Int) < name.size) = false := decide_eq_false hn2
    go_wp2_with fail
    refine hbr.mono ?_
    clear hbr
    rintro e w2 ⟨⟨v, rfl, hv⟩, g2⟩
    have HB2 := Lib.hid (chain HB1.out g2)
    clear g2
    cases v with
    | false =>
      go_wp2_with fail
      go_ret
      exact ⟨rfl, HB2.out⟩
    | true =>
      have HBR := Lib.hid (hv rfl)
      clear hv
      by_cases hz : l.length = 0
      · have b5 : ((l.length : Int) == 0) = true := by rw [hz]; rfl
        go_wp2_with fail
        go_ret
        exact ⟨rfl, HB2.out⟩
      have b5 : ((l.length : Int) == 0) = false := by rw [beq_eq_false_iff_ne]; omega
      by_cases h40 : (40 : Int) < l.length
      · have b6 : decide ((40 : Int) < l.length) = true := decide_eq_true h40
        go_wp2_with fail
        go_ret
        exact ⟨rfl, HB2.out⟩
      have b6 : decide ((40 : Int) < l.length) = false := decide_eq_false h40
      have hT := type_any t w2 (by omega)
      cases htt : isType t with
      | false =>
        rw [htt] at hT
        go_wp2_with fail
        refine hT.mono ?_
        rintro e w3 ⟨rfl, rfl⟩
        go_wp2_with fail
        go_ret
        exact ⟨rfl, HB2.out⟩
      | true =>
        rw [htt] at hT
        have HTT := Lib.hid htt
        have hN := names_one name w2 (by omega)
        clear htt
        go_wp2_with fail
        refine hT.mono ?_
        rintro e w3 ⟨rfl, rfl⟩
        go_wp2_with fail
        refine hN.mono ?_
        clear hN hT
        rintro e w4 ⟨⟨v, rfl, hv⟩, g4⟩
        have HB4 := Lib.hid (chain HB2.out g4)
        clear g4
        cases v with
        | false =>
          go_wp2_with fail
          go_ret
          exact ⟨rfl, HB4.out⟩
        | true =>
          have HNM := Lib.hid (hv rfl)
          clear hv
          have hL4 := HL.out.below HB4.out
          rcases hL4 with rfl | ⟨b, off, rfl, hr⟩
          · exact absurd rfl hz
          have HR := Lib.hid hr
          have HNE : Hid (l ≠ []) := Lib.hid (fun e => hz (by rw [e]; rfl))
          have HTL : Hid ((texts (exts name 0 l)).length ≤ 2684356000) := Lib.hid (by have := ext_texts_le (l := l) (name := name) (by omega) HBR.out.2; omega)
          have HTP : Hid (∀ k, (texts (exts name 0 (l.take k))).length ≤ 2684356000) := Lib.hid (by
            intro k
            have h1 := ext_texts_le (l := l.take k) (name := name) (by omega) (fun s hs => HBR.out.2 s (List.mem_of_mem_take hs))
            rw [List.length_take] at h1
            omega)
          have hts : t.size ≤ 16777216 := by omega
          have hns : name.size ≤ 16777216 := by omega
          have hl40 : l.length ≤ 40 := by omega
          have HP : Hid ((∀ s ∈ l, s.size ≠ 0) → ∀ W, Below w4.heap.size w4 W → Calls Tryz.prog 14 #[.string (t ++ tx (texts (exts name 0 l)))] W fun e w' => ∃ v, e = .returned (.tuple #[.string (lower t), v, .int .i64 0]) ∧ Pv v [(lower name, tx (cat l))] w' ∧ Below W.heap.size W w') :=
            Lib.hid fun hz W hW => parse_ext e0 e1 t name l W (HE.out.below (chain HB4.out hW)) hts HTT.out hns HNM.out.1 HNM.out.2 HNE.out hl40 HBR.out.2 hz
          have HJ : Hid (∀ W, Below w4.heap.size w4 W → Calls Tryz.prog 23 #[.slice (some ⟨b, off, none⟩) l.length cap] W fun e w' => e = .returned (.string (tx (cat l))) ∧ Below W.heap.size W w') :=
            Lib.hid fun W hW => join_row b off cap l W (by omega) (by have := cat_le HBR.out.2; omega) (HR.out.below hW)
          clear HL HE HB1 HB2 HTT HNM hr ht1 hn1 ht2 hn2 h40
          generalize hn : l.length = n at *
          have HN := Lib.hid hn
          clear hn
          go_wp2_with fail
          go_loopw [7, 62] (fun v i wr => ∃ k : Nat, ∃ u : ByteArray, k ≤ n ∧ i = .int .i64 k ∧ v = .string u ∧ Hid (bl u = bl t ++ texts (exts name 0 (l.take k))) ∧ Hid (∀ s ∈ l.take k, s.size ≠ 0) ∧ Hid (Below w4.heap.size w4 wr)) (fun _ i _ => n - (intOf i).toNat)
          case atStart => exact ⟨0, t, Nat.zero_le _, rfl, rfl, Lib.hid (by simp [exts, texts]), Lib.hid (by simp), Lib.hid (Below.refl _ _)⟩
          case round =>
            obtain ⟨k, u, hk, rfl, rfl, HU, HZ, HB⟩ := hrel
            have hus : u.size ≤ 2701133216 := by
              have h1 := HTP.out k
              rw [sz, HU.out, List.length_append, ← sz]
              omega
            by_cases hlt : k < n
            · obtain ⟨x, hx⟩ : ∃ x, l[k]? = some x := ⟨l[k]'(by rw [HN.out]; exact hlt), List.getElem?_eq_getElem _⟩
              have c0 := (HR.out.below HB.out) k x hx
              have hxs := HBR.out.2 x (List.mem_of_getElem? hx)
              by_cases hx0 : x.size = 0
              · have b7 : (x.toList.isEmpty) = true := emp_yes hx0
                have HBB := Lib.hid (chain HB4.out HB.out)
                clear hx
                go_wp2_with fail
                go_ret
                exact ⟨rfl, HBB.out⟩
              have b7 : (x.toList.isEmpty) = false := emp_no (by omega)
              have hsn := exts_snoc (name := name) hx
              have HZ2 : Hid (∀ s ∈ l.take (k + 1), s.size ≠ 0) := Lib.hid (all_snoc (p := fun s => s.size ≠ 0) hx HZ.out hx0)
              have hnm := number_any k (by omega)
              have hes := fun W => escape_any x W (by omega)
              have hnz := num_size k
              have hel : (tx (esc (bl x))).size ≤ 50331648 := by
                rw [size_tx]
                have := esc_le (bl x)
                rw [← sz] at this
                omega
              clear hx
              by_cases hk0 : k = 0
              · have b8 : ((k : Int) == 0) = true := by rw [hk0]; rfl
                have G : Hid (bl (u ++ (⟨#[59, 32]⟩ ++ name ++ ⟨#[42]⟩ ++ num k ++ ⟨#[42, 61]⟩) ++ ⟨#[85, 84, 70, 45, 56, 39, 101, 110, 39]⟩ ++ tx (esc (bl x))) = bl t ++ texts (exts name 0 (l.take (k + 1)))) := Lib.hid (by
                  rw [hsn]
                  simp only [texts, List.flatMap_append, List.flatMap_cons, List.flatMap_nil, List.append_nil, ext_text]
                  simp only [bl_app, HU.out, bl_tx, texts]
                  unfold rawL
                  rw [if_pos hk0]
                  simp [bl])
                generalize tx (esc (bl x)) = ex at *
                clear hsn hk0
                go_wp2_with fail
                refine (hnm wr).mono ?_
                rintro e w5 ⟨rfl, g5⟩
                have HB5 := Lib.hid (chain HB.out g5)
                clear g5
                go_wp2_with fail
                refine (hes w5).mono ?_
                rintro e w6 ⟨rfl, g6⟩
                have HB6 := Lib.hid (chain HB5.out g6)
                clear g6
                go_wp2_with fail
                exact ⟨⟨k + 1, _, by omega, by go_num, rfl, G, HZ2, HB6⟩, by simp [intOf]; omega⟩
              · have b8 : ((k : Int) == 0) = false := by rw [beq_eq_false_iff_ne]; omega
                have G : Hid (bl (u ++ (⟨#[59, 32]⟩ ++ name ++ ⟨#[42]⟩ ++ num k ++ ⟨#[42, 61]⟩) ++ tx (esc (bl x))) = bl t ++ texts (exts name 0 (l.take (k + 1)))) := Lib.hid (by
                  rw [hsn]
                  simp only [texts, List.flatMap_append, List.flatMap_cons, List.flatMap_nil, List.append_nil, ext_text]
                  simp only [bl_app, HU.out, bl_tx, texts]
                  unfold rawL
                  rw [if_neg hk0]
                  simp [bl])
                generalize tx (esc (bl x)) = ex at *
                clear hsn hk0
                go_wp2_with fail
                refine (hnm wr).mono ?_
                rintro e w5 ⟨rfl, g5⟩
                have HB5 := Lib.hid (chain HB.out g5)
                clear g5
                go_wp2_with fail
                refine (hes w5).mono ?_
                rintro e w6 ⟨rfl, g6⟩
                have HB6 := Lib.hid (chain HB5.out g6)
                clear g6
                go_wp2_with fail
                exact ⟨⟨k + 1, _, by omega, by go_num, rfl, G, HZ2, HB6⟩, by simp [intOf]; omega⟩
            · obtain rfl : k = n := by omega
              have htk : l.take k = l := List.take_of_length_le (by rw [HN.out]; exact Nat.le_refl _)
              have hue : u = t ++ tx (texts (exts name 0 l)) := eq_of_bl (by rw [HU.out, htk, bl_app, bl_tx])
              have hz2 := HZ.out
              rw [htk] at hz2
              have hP := HP.out hz2 wr HB.out
              rw [← hue] at hP
              have HP2 := Lib.hid hP
              have HLt := Lib.hid (fun W => lower_any t W (by omega))
              have HLn := Lib.hid (fun W => lower_any name W (by omega))
              clear htk hue hz2 hP HP HR HU HZ HTL HTP
              generalize lower t = lt at HP2 HLt
              generalize lower name = ln at HP2 HLn
              generalize tx (cat l) = jn at HP2 HJ
              go_wp2_with fail
              refine HP2.out.mono ?_
              clear HP2
              rintro e w5 ⟨v, rfl, hv, g5⟩
              have HB5 := Lib.hid (chain HB.out g5)
              have hsv : ∃ a n c, v = .slice a n c := by
                rcases hv with ⟨h, _⟩ | ⟨g, cp, h, _⟩
                · exact ⟨_, _, _, h⟩
                · exact ⟨_, _, _, h⟩
              obtain ⟨a5, n5, c5, rfl⟩ := hsv
              have HV5 := Lib.hid hv
              clear hv g5
              go_wp2_with fail
              refine (HLt.out w5).mono ?_
              rintro e w6 ⟨rfl, g6⟩
              have HB6 := Lib.hid (chain HB5.out g6)
              have HV6 := Lib.hid (HV5.out.below g6)
              clear g6 HV5 HLt HB5
              go_wp2_with fail
              refine (HLn.out w6).mono ?_
              rintro e w7 ⟨rfl, g7⟩
              have HB7 := Lib.hid (chain HB6.out g7)
              have HV7 := Lib.hid (HV6.out.below g7)
              clear g7 HV6 HLn HB6
              go_wp2_with fail
              refine (HJ.out w7 HB7.out).mono ?_
              rintro e w8 ⟨rfl, g8⟩
              have HB8 := Lib.hid (chain HB7.out g8)
              have HV8 := Lib.hid (HV7.out.below g8)
              clear g8 HV7 HJ HB7
              have hal : Below w8.heap.size w8 (w8.alloc (.cells #[.string ln, .string jn] 38)) := (Below.refl _ w8).alloc (Nat.le_refl _) _
              have hsm := same_pv (HV8.out.below hal) (.inr ⟨w8.heap.size, 1, rfl, one_row w8 ln jn⟩) (by simp)
              have HB9 := Lib.hid (chain (chain HB4.out HB8.out) hal)
              clear hal HB8 HV8
              go_wp2_with fail
              refine hsm.mono ?_
              rintro e w9 ⟨rfl, g9⟩
              have HB10 := Lib.hid (chain HB9.out g9)
              clear g9 hsm
              go_wp2_with fail
              go_ret
              exact ⟨rfl, HB10.out⟩
end Go.Proofs.YtbklpdcipfhdjaaGreatDoor.Ext
