/- The walk of ParseMediaType over parameters without asterisks, to its good end: with nothing behind them, and with a semicolon. -/
import Derived.Test.YtbklpdcipfhdjaaGreatDoorT
import Derived.Laws.IdiomRangeMap
namespace Go.Proofs.YtbklpdcipfhdjaaGreatDoor.Tk
open Go.RowKit Go.Maps Go.ChangeMaps Go.WideMaps Go.Proofs.YtbklpdcipfhdjaaGreatDoor.A Go.Proofs.YtbklpdcipfhdjaaGreatDoor.C Go.Proofs.YtbklpdcipfhdjaaGreatDoor.D Go.Proofs.YtbklpdcipfhdjaaGreatDoor.E Go.Proofs.YtbklpdcipfhdjaaGreatDoor.F Go.Proofs.YtbklpdcipfhdjaaGreatDoor.G Go.Proofs.YtbklpdcipfhdjaaGreatDoor.H Go.Proofs.YtbklpdcipfhdjaaGreatDoor.I Go.Proofs.YtbklpdcipfhdjaaGreatDoor.P Go.Proofs.YtbklpdcipfhdjaaGreatDoor.J Go.Proofs.YtbklpdcipfhdjaaGreatDoor.N Go.Proofs.YtbklpdcipfhdjaaGreatDoor.O Go.Proofs.YtbklpdcipfhdjaaGreatDoor.Q Go.Proofs.YtbklpdcipfhdjaaGreatDoor.R Go.Proofs.YtbklpdcipfhdjaaGreatDoor.S Go.Proofs.YtbklpdcipfhdjaaGreatDoor.T

theorem next_nil (x3 : World) (ty : TypeId) : (Instr.next (.pointer (some ⟨x3.heap.size + 1, 0, none⟩)) false ty).run Tryz.prog ((x3.alloc (.cells #[.pointer none, .slice none 0 0] 77)).alloc (.mapIter none 0 #[] 0)) = .ok (.tuple #[.bool false]) ((x3.alloc (.cells #[.pointer none, .slice none 0 0] 77)).alloc (.mapIter none 0 #[] 0)) := by
  have h := run_next_nilMap (P := Tryz.prog) (x3.alloc (.cells #[.pointer none, .slice none 0 0] 77)) ty 0 0 #[]
  rw [show (x3.alloc (.cells #[.pointer none, .slice none 0 0] 77)).heap.size = x3.heap.size + 1 by simp] at h
  exact h

set_option maxHeartbeats 600000 in
set_option maxRecDepth 100000 in
/-- A semicolon at the end. -/
theorem parse_semi (e0 e1 : Value) (s t : ByteArray) (l : List Wn) (a R : List UInt8) (w : World) (hE : Env e0 e1 w) (hs : s.size ≤ 1099511627776) (hl : bl s = bl t ++ (texts l ++ (a ++ 59 :: R))) (ht : isType t = true) (hx : Apart l) (ha : a.all blk = true) (hR : R.all blk = true) :
    Calls Tryz.prog 35 #[.string s] w fun e w' => ∃ B, e = .returned (.tuple #[.string (lower t), .map (some B), .nilIface]) ∧ Mp B l w w' := by
  obtain ⟨A, q, hA, hAb⟩ : ∃ A q, texts l ++ (a ++ 59 :: R) = A ++ 59 :: q ∧ A.all blk = true := by
    rcases restOk_texts hx.writ (tail := a ++ 59 :: R) (.inr ⟨a, R, rfl, ha⟩) with h | h
    · simp at h
    · exact h
  obtain ⟨base, low0, aft, ok, hH⟩ := head_ok e0 e1 s t A (59 :: q) hs ht (by rw [hl, hA]) hAb (.inr ⟨q, rfl⟩)
  have HV : Hid (Behind (texts l ++ (a ++ 59 :: R)) (59 :: q)) := Lib.hid ⟨A, hAb, hA⟩
  have hsz2 : (texts l ++ (a ++ 59 :: R)).length ≤ 1099511627776 := by have := sz s; rw [hl, List.length_append] at this; omega
  have HSZ := Lib.hid hsz2
  have HX := Lib.hid hx
  have HA := Lib.hid ha
  have hRs : (tx (59 :: R)).size ≤ 1099511627776 := by rw [size_tx]; have := sz s; rw [hl] at this; simp at this; simp; omega
  have h53 := param_semi (tx (59 :: R)) [] R hRs (bl_tx _) rfl hR
  have h48 := g_trimSpace (e0 := e0) (e1 := e1) (tx (59 :: R)) [59] R hRs (bl_tx _) (by decide) hR (by intro d hd; simp at hd; subst hd; decide) (by intro d hd; simp at hd; subst hd; decide) (by simp)
  obtain ⟨u, hu⟩ : ∃ u, u = tx [59] := ⟨_, rfl⟩
  rw [← hu] at h48
  have HU : (u.toList == [59]) = true := by rw [hu, Lib.toList_data]; rfl
  clear hu
  have HD := hH.drop
  have HLE := hH.le
  have HE := Lib.hid hE
  generalize hV0 : tx (59 :: q) = V0 at *
  have HV0 := Lib.hid hV0
  clear hl hA hAb hsz2 hx ha hV0 ht hE hR hRs
  have hmm := @run_makeMap Tryz.prog
  have hrn : ∀ W : World, (Instr.range 68 (.map none)).run Tryz.prog W = _ := fun W => run_range_nilMap (P := Tryz.prog) W 68 9 52 Tryz.underlying68
  go_enter Tryz.func35, Tryz.ntmps35
  go_wp2_with fail
  refine (hH.cut w).mono ?_
  rintro e w1 ⟨rfl, g1⟩
  go_wp2_with fail
  refine (hH.lows w1).mono ?_
  rintro e w2 ⟨rfl, g2⟩
  go_wp2_with fail
  refine (hH.trim w2 ((HE.out.below g1).below g2)).mono ?_
  rintro e w3 ⟨rfl, g3⟩
  go_wp2_with fail
  refine (hH.check w3).mono ?_
  rintro e w4 ⟨rfl, g4⟩
  have G4 : Hid (Below w.heap.size w w4) := Lib.hid (chain (chain (chain g1 g2) g3) g4)
  clear g1 g2 g3 g4
  go_wp2_with fail
  have HM : Hid (Mp w4.heap.size [] w (w4.alloc (.map #[] 0))) := Lib.hid ⟨World.ownsMap_made _ _ _ _, G4.out.alloc G4.out.size _, G4.out.size⟩
  have HGE : Hid (w.heap.size ≤ w4.heap.size) := Lib.hid G4.out.size
  generalize w4.alloc (.map #[] 0) = w5 at *
  generalize w4.heap.size = B at *
  go_loopg [0, 2, 3, 4, 8] l.length (fun gk v v2 v3 v4 v8 wr => ∃ pre suf : List Wn, ∃ V : List UInt8, gk = suf.length ∧ v = .string (tx V) ∧ v2 = .string (lower t) ∧ v3 = .map (some B) ∧ v4 = .nilIface ∧ v8 = .map none ∧ Hid (l = pre ++ suf ∧ Behind (texts suf ++ (a ++ 59 :: R)) V) ∧ Hid (Mp B pre w wr))
  case atStart => exact ⟨[], l, _, rfl, by rw [HV0.out], rfl, rfl, rfl, rfl, Lib.hid ⟨rfl, HV.out⟩, HM⟩
  case round =>
    obtain ⟨pre, suf, V, rfl, rfl, rfl, rfl, rfl, rfl, HL, HP⟩ := hrel
    have hEr : Env e0 e1 wr := HE.out.below HP.out.below
    have HEr := Lib.hid hEr
    clear hEr
    cases suf with
    | nil =>
      obtain ⟨A2, hA2, rfl⟩ := HL.out.2.part HA.out
      have hvs : (tx (A2 ++ 59 :: R)).size ≤ 1099511627776 := by
        obtain ⟨A3, _, e⟩ := HL.out.2
        have h1 := congrArg List.length e
        have h2 := HSZ.out
        rw [HL.out.1] at h2
        rw [size_tx]
        simp [texts] at h1 h2
        simp
        omega
      have hv0 : 0 < (tx (A2 ++ 59 :: R)).size := by rw [size_tx]; simp; omega
      have ht := g_trim (tx (A2 ++ 59 :: R)) A2 (59 :: R) hvs (bl_tx _) hA2 (by intro d hd; simp at hd; subst hd; decide)
      have hz0 : 0 < (tx (59 :: R)).size := tx_size_pos
      generalize tx (A2 ++ 59 :: R) = v0 at *
      generalize tx (59 :: R) = v1 at *
      have he0 : v1.toList.isEmpty = false := emp_no hz0
      clear hA2 hvs
      go_wp2_with fail
      refine (ht wr).mono ?_
      rintro e x1 ⟨rfl, g1⟩
      go_wp2_with fail
      refine (h53 x1).mono ?_
      rintro e x2 ⟨rfl, g2⟩
      go_wp2_with fail
      refine (h48 x2 ((HEr.out.below g1).below g2)).mono ?_
      rintro e x3 ⟨rfl, g3⟩
      have hll : l = pre := by have := HL.out.1; rw [List.append_nil] at this; exact this
      have G3 : Mp B l w x3 := by rw [hll]; exact HP.out.next (chain (chain g1 g2) g3)
      have G : Hid (Mp B l w ((x3.alloc (.cells #[.pointer none, .slice none 0 0] 77)).alloc (.mapIter none 0 #[] 0))) := Lib.hid ((G3.next ((Below.refl _ x3).alloc (Nat.le_refl _) _)).next ((Below.refl _ _).alloc (Nat.le_refl _) _))
      have hn1 := next_nil x3
      clear g1 g2 g3 hll G3
      go_wp2_with fail
      refine wp_loop_rounds 1 ?_
      rw [rounds_succ]
      go_wp2_with fail
      go_ret3
      exact ⟨B, rfl, G.out⟩
    | cons x suf =>
      have hxw : Writ x := HX.out.writ x (by rw [HL.out.1]; simp)
      have hsuf : ∀ y ∈ suf, Writ y := fun y hy => HX.out.writ y (by rw [HL.out.1]; simp [hy])
      have hrest : RestOk (texts suf ++ (a ++ 59 :: R)) := restOk_texts hsuf (.inr ⟨a, R, rfl, HA.out⟩)
      obtain ⟨Z, hZ⟩ := bare_head x
      have hB : Behind (bl x.ahead ++ 59 :: (Z ++ (texts suf ++ (a ++ 59 :: R)))) V := by
        have := HL.out.2
        rw [texts_cons, bare_text, hZ] at this
        simpa using this
      obtain ⟨A2, hA2, rfl⟩ := hB.part hxw.ahead
      have hvl : (tx (A2 ++ 59 :: (Z ++ (texts suf ++ (a ++ 59 :: R))))).size ≤ 1099511627776 := by
        obtain ⟨A3, _, e⟩ := HL.out.2
        have h1 := congrArg List.length e
        have h2 := HSZ.out
        rw [HL.out.1] at h2
        rw [size_tx]
        simp [texts] at h1 h2
        simp [texts]
        omega
      have hvz : (tx (59 :: (Z ++ (texts suf ++ (a ++ 59 :: R))))).size ≤ 1099511627776 := by
        rw [size_tx] at hvl ⊢
        simp at hvl ⊢
        omega
      have hv0 : 0 < (tx (A2 ++ 59 :: (Z ++ (texts suf ++ (a ++ 59 :: R))))).size := by rw [size_tx]; simp; omega
      have ht := g_trim _ A2 (59 :: (Z ++ (texts suf ++ (a ++ 59 :: R)))) hvl (bl_tx _) hA2 (by intro d hd; simp at hd; subst hd; decide)
      have hz0 : 0 < (tx (59 :: (Z ++ (texts suf ++ (a ++ 59 :: R))))).size := tx_size_pos
      have hp := param_ok _ (bare x) (texts suf ++ (a ++ 59 :: R)) hvz (by rw [bl_tx, hZ]; simp) (bare_writ hxw) (.inr hrest.head)
      have hnl : (bl x.name).length ≤ 1099511627776 := by
        rw [size_tx] at hvz
        have := congrArg List.length hZ
        unfold Wn.text bare at this
        have h4 := sz x.name
        simp at this hvz
        omega
      have hns : (lower x.name).size ≤ 1099511627776 := by rw [lower_size, sz]; exact hnl
      have hvs : x.value.size ≤ 1099511627776 := by
        rw [size_tx] at hvz
        have := congrArg List.length hZ
        unfold Wn.text bare Wn.val at this
        have h3 := qb_length_ge (bl x.value)
        have h4 := sz x.value
        simp at this hvz
        split at this <;> simp [quoteL] at this <;> omega
      have hst : (42 : UInt8) ∉ bl (lower x.name) := by
        rw [lower_bl]
        intro h
        obtain ⟨d, hd, e⟩ := List.mem_map.1 h
        exact HX.out.star x (by rw [HL.out.1]; simp) (low42 d e ▸ hd)
      have hcut := g_cutNo (lower x.name) 42 hns hst
      have hke : (lower x.name).toList.isEmpty = false := emp_no (by rw [lower_size, sz]; exact (tok_all hxw.name).1)
      have hpre : ∀ y ∈ pre, lower y.name ≠ lower x.name := by
        have := HX.out.apart
        rw [HL.out.1, List.map_append, List.map_cons] at this
        intro y hy e
        exact (List.nodup_append.1 this).2.2 _ (List.mem_map.2 ⟨y, hy, rfl⟩) _ (by simp) e
      have hpl : pre.length < maxLen := by
        have h2 := HSZ.out
        rw [HL.out.1] at h2
        have h5 : pre.length ≤ (texts pre).length := texts_len pre
        simp [texts] at h2 h5
        unfold maxLen
        omega
      have HN : Hid (∀ W, Mp B (pre ++ [x]) w W → ∃ pre suf' : List Wn, ∃ V : List UInt8, suf.length = suf'.length ∧ Value.string (tx (texts suf ++ (a ++ 59 :: R))) = .string (tx V) ∧ Hid (l = pre ++ suf' ∧ Behind (texts suf' ++ (a ++ 59 :: R)) V) ∧ Hid (Mp B pre w W)) :=
        Lib.hid fun W hW => ⟨pre ++ [x], suf, _, rfl, rfl, Lib.hid ⟨by rw [HL.out.1]; simp, Behind.refl _⟩, Lib.hid hW⟩
      have HPRE := Lib.hid hpre
      clear hxw hsuf hrest hB hA2 hvl hvz hnl hst hpre hZ HL
      generalize tx (A2 ++ 59 :: (Z ++ (texts suf ++ (a ++ 59 :: R)))) = v0 at *
      generalize tx (59 :: (Z ++ (texts suf ++ (a ++ 59 :: R)))) = v1 at *
      generalize tx (texts suf ++ (a ++ 59 :: R)) = v2 at *
      have hp2 : Gives 53 #[.string v1] (.tuple #[.string (lower x.name), .string x.value, .string v2]) := hp
      clear hp
      go_wp2_with fail
      refine (ht wr).mono ?_
      rintro e x1 ⟨rfl, g1⟩
      go_wp2_with fail
      refine (hp2 x1).mono ?_
      rintro e x2 ⟨rfl, g2⟩
      go_wp2_with fail
      refine (hcut x2).mono ?_
      rintro e x3 ⟨rfl, g3⟩
      have hP3 : Mp B pre w x3 := HP.out.next (chain (chain g1 g2) g3)
      obtain ⟨vv, hlook⟩ := hP3.look x HPRE.out hns
      obtain ⟨W, hst, hW⟩ := hP3.store x hns hvs hpl
      have G := Lib.hid (HN.out W hW)
      clear hW hP3 g1 g2 g3 HN HPRE
      go_wp2_with fail
      go_roundg suf.length
      case measure => simp
      case rel =>
        obtain ⟨p1, s1, V1, q1, q2, q3, q4⟩ := G.out
        exact ⟨p1, s1, V1, q1, q2, rfl, rfl, rfl, rfl, q3, q4⟩

set_option maxHeartbeats 600000 in
set_option maxRecDepth 100000 in
/-- Nothing behind the parameters. -/
theorem parse_end (e0 e1 : Value) (s t : ByteArray) (l : List Wn) (w : World) (hE : Env e0 e1 w) (hs : s.size ≤ 1099511627776) (hl : bl s = bl t ++ (texts l ++ [])) (ht : isType t = true) (hx : Apart l) :
    Calls Tryz.prog 35 #[.string s] w fun e w' => ∃ B, e = .returned (.tuple #[.string (lower t), .map (some B), .nilIface]) ∧ Mp B l w w' := by
  obtain ⟨A, r, hA, hAb, hr⟩ : ∃ A r, texts l ++ [] = A ++ r ∧ A.all blk = true ∧ (r = [] ∧ A = [] ∨ ∃ q, r = 59 :: q) := by
    rcases restOk_texts hx.writ (tail := []) (.inl rfl) with h | ⟨A, q, h1, h2⟩
    · exact ⟨[], [], h, rfl, .inl ⟨rfl, rfl⟩⟩
    · exact ⟨A, 59 :: q, h1, h2, .inr ⟨q, rfl⟩⟩
  obtain ⟨base, low0, aft, ok, hH⟩ := head_ok e0 e1 s t A r hs ht (by rw [hl, hA]) hAb hr
  have HV : Hid (Behind (texts l ++ []) r) := Lib.hid ⟨A, hAb, hA⟩
  have hsz2 : (texts l ++ []).length ≤ 1099511627776 := by have := sz s; rw [hl, List.length_append] at this; omega
  have HSZ := Lib.hid hsz2
  have HX := Lib.hid hx
  have HD := hH.drop
  have HLE := hH.le
  have HE := Lib.hid hE
  generalize hV0 : tx r = V0 at *
  have HV0 := Lib.hid hV0
  clear hl hA hAb hsz2 hx hV0 ht hE hr
  have hmm := @run_makeMap Tryz.prog
  have hrn : ∀ W : World, (Instr.range 68 (.map none)).run Tryz.prog W = _ := fun W => run_range_nilMap (P := Tryz.prog) W 68 9 52 Tryz.underlying68
  go_enter Tryz.func35, Tryz.ntmps35
  go_wp2_with fail
  refine (hH.cut w).mono ?_
  rintro e w1 ⟨rfl, g1⟩
  go_wp2_with fail
  refine (hH.lows w1).mono ?_
  rintro e w2 ⟨rfl, g2⟩
  go_wp2_with fail
  refine (hH.trim w2 ((HE.out.below g1).below g2)).mono ?_
  rintro e w3 ⟨rfl, g3⟩
  go_wp2_with fail
  refine (hH.check w3).mono ?_
  rintro e w4 ⟨rfl, g4⟩
  have G4 : Hid (Below w.heap.size w w4) := Lib.hid (chain (chain (chain g1 g2) g3) g4)
  clear g1 g2 g3 g4
  go_wp2_with fail
  have HM : Hid (Mp w4.heap.size [] w (w4.alloc (.map #[] 0))) := Lib.hid ⟨World.ownsMap_made _ _ _ _, G4.out.alloc G4.out.size _, G4.out.size⟩
  have HGE : Hid (w.heap.size ≤ w4.heap.size) := Lib.hid G4.out.size
  generalize w4.alloc (.map #[] 0) = w5 at *
  generalize w4.heap.size = B at *
  go_loopg [0, 2, 3, 4, 8] l.length (fun gk v v2 v3 v4 v8 wr => ∃ pre suf : List Wn, ∃ V : List UInt8, gk = suf.length ∧ v = .string (tx V) ∧ v2 = .string (lower t) ∧ v3 = .map (some B) ∧ v4 = .nilIface ∧ v8 = .map none ∧ Hid (l = pre ++ suf ∧ Behind (texts suf ++ []) V) ∧ Hid (Mp B pre w wr))
  case atStart => exact ⟨[], l, _, rfl, by rw [HV0.out], rfl, rfl, rfl, rfl, Lib.hid ⟨rfl, HV.out⟩, HM⟩
  case round =>
    obtain ⟨pre, suf, V, rfl, rfl, rfl, rfl, rfl, rfl, HL, HP⟩ := hrel
    have hEr : Env e0 e1 wr := HE.out.below HP.out.below
    have HEr := Lib.hid hEr
    clear hEr
    cases suf with
    | nil =>
      have hV : V = [] := HL.out.2.nil
      subst hV
      have hll : l = pre := by have := HL.out.1; rw [List.append_nil] at this; exact this
      have G3 : Mp B l w wr := by rw [hll]; exact HP.out
      have G : Hid (Mp B l w ((wr.alloc (.cells #[.pointer none, .slice none 0 0] 77)).alloc (.mapIter none 0 #[] 0))) := Lib.hid ((G3.next ((Below.refl _ wr).alloc (Nat.le_refl _) _)).next ((Below.refl _ _).alloc (Nat.le_refl _) _))
      have hz : (tx []).size = 0 := rfl
      generalize tx [] = v0 at *
      have hn1 := next_nil wr
      clear hll G3
      go_wp2_with fail
      refine wp_loop_rounds 1 ?_
      rw [rounds_succ]
      go_wp2_with fail
      go_ret3
      exact ⟨B, rfl, G.out⟩
    | cons x suf =>
      have hxw : Writ x := HX.out.writ x (by rw [HL.out.1]; simp)
      have hsuf : ∀ y ∈ suf, Writ y := fun y hy => HX.out.writ y (by rw [HL.out.1]; simp [hy])
      have hrest : RestOk (texts suf ++ []) := restOk_texts hsuf (.inl rfl)
      obtain ⟨Z, hZ⟩ := bare_head x
      have hB : Behind (bl x.ahead ++ 59 :: (Z ++ (texts suf ++ []))) V := by
        have := HL.out.2
        rw [texts_cons, bare_text, hZ] at this
        simpa using this
      obtain ⟨A2, hA2, rfl⟩ := hB.part hxw.ahead
      have hvl : (tx (A2 ++ 59 :: (Z ++ (texts suf ++ [])))).size ≤ 1099511627776 := by
        obtain ⟨A3, _, e⟩ := HL.out.2
        have h1 := congrArg List.length e
        have h2 := HSZ.out
        rw [HL.out.1] at h2
        rw [size_tx]
        simp [texts] at h1 h2
        simp [texts]
        omega
      have hvz : (tx (59 :: (Z ++ (texts suf ++ [])))).size ≤ 1099511627776 := by
        rw [size_tx] at hvl ⊢
        simp at hvl ⊢
        omega
      have hv0 : 0 < (tx (A2 ++ 59 :: (Z ++ (texts suf ++ [])))).size := by rw [size_tx]; simp; omega
      have ht := g_trim _ A2 (59 :: (Z ++ (texts suf ++ []))) hvl (bl_tx _) hA2 (by intro d hd; simp at hd; subst hd; decide)
      have hz0 : 0 < (tx (59 :: (Z ++ (texts suf ++ [])))).size := tx_size_pos
      have hp := param_ok _ (bare x) (texts suf ++ []) hvz (by rw [bl_tx, hZ]; simp) (bare_writ hxw) (.inr hrest.head)
      have hnl : (bl x.name).length ≤ 1099511627776 := by
        rw [size_tx] at hvz
        have := congrArg List.length hZ
        unfold Wn.text bare at this
        have h4 := sz x.name
        simp at this hvz
        omega
      have hns : (lower x.name).size ≤ 1099511627776 := by rw [lower_size, sz]; exact hnl
      have hvs : x.value.size ≤ 1099511627776 := by
        rw [size_tx] at hvz
        have := congrArg List.length hZ
        unfold Wn.text bare Wn.val at this
        have h3 := qb_length_ge (bl x.value)
        have h4 := sz x.value
        simp at this hvz
        split at this <;> simp [quoteL] at this <;> omega
      have hst : (42 : UInt8) ∉ bl (lower x.name) := by
        rw [lower_bl]
        intro h
        obtain ⟨d, hd, e⟩ := List.mem_map.1 h
        exact HX.out.star x (by rw [HL.out.1]; simp) (low42 d e ▸ hd)
      have hcut := g_cutNo (lower x.name) 42 hns hst
      have hke : (lower x.name).toList.isEmpty = false := emp_no (by rw [lower_size, sz]; exact (tok_all hxw.name).1)
      have hpre : ∀ y ∈ pre, lower y.name ≠ lower x.name := by
        have := HX.out.apart
        rw [HL.out.1, List.map_append, List.map_cons] at this
        intro y hy e
        exact (List.nodup_append.1 this).2.2 _ (List.mem_map.2 ⟨y, hy, rfl⟩) _ (by simp) e
      have hpl : pre.length < maxLen := by
        have h2 := HSZ.out
        rw [HL.out.1] at h2
        have h5 : pre.length ≤ (texts pre).length := texts_len pre
        simp [texts] at h2 h5
        unfold maxLen
        omega
      have HN : Hid (∀ W, Mp B (pre ++ [x]) w W → ∃ pre suf' : List Wn, ∃ V : List UInt8, suf.length = suf'.length ∧ Value.string (tx (texts suf ++ [])) = .string (tx V) ∧ Hid (l = pre ++ suf' ∧ Behind (texts suf' ++ []) V) ∧ Hid (Mp B pre w W)) :=
        Lib.hid fun W hW => ⟨pre ++ [x], suf, _, rfl, rfl, Lib.hid ⟨by rw [HL.out.1]; simp, Behind.refl _⟩, Lib.hid hW⟩
      have HPRE := Lib.hid hpre
      clear hxw hsuf hrest hB hA2 hvl hvz hnl hst hpre hZ HL
      generalize tx (A2 ++ 59 :: (Z ++ (texts suf ++ []))) = v0 at *
      generalize tx (59 :: (Z ++ (texts suf ++ []))) = v1 at *
      generalize tx (texts suf ++ []) = v2 at *
      have hp2 : Gives 53 #[.string v1] (.tuple #[.string (lower x.name), .string x.value, .string v2]) := hp
      clear hp
      go_wp2_with fail
      refine (ht wr).mono ?_
      rintro e x1 ⟨rfl, g1⟩
      go_wp2_with fail
      refine (hp2 x1).mono ?_
      rintro e x2 ⟨rfl, g2⟩
      go_wp2_with fail
      refine (hcut x2).mono ?_
      rintro e x3 ⟨rfl, g3⟩
      have hP3 : Mp B pre w x3 := HP.out.next (chain (chain g1 g2) g3)
      obtain ⟨vv, hlook⟩ := hP3.look x HPRE.out hns
      obtain ⟨W, hst, hW⟩ := hP3.store x hns hvs hpl
      have G := Lib.hid (HN.out W hW)
      clear hW hP3 g1 g2 g3 HN HPRE
      go_wp2_with fail
      go_roundg suf.length
      case measure => simp
      case rel =>
        obtain ⟨p1, s1, V1, q1, q2, q3, q4⟩ := G.out
        exact ⟨p1, s1, V1, q1, q2, rfl, rfl, rfl, rfl, q3, q4⟩


end Go.Proofs.YtbklpdcipfhdjaaGreatDoor.Tk
