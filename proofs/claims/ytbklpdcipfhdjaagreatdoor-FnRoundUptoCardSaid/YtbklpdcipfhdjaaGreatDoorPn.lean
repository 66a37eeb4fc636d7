/- The walk of impl.Parse to its good end, where the parameters stand in a map in some order. -/
import Derived.Test.YtbklpdcipfhdjaaGreatDoorPk
import Derived.Test.YtbklpdcipfhdjaaGreatDoorPa
import Derived.Test.YtbklpdcipfhdjaaGreatDoorGd
namespace Go.Proofs.YtbklpdcipfhdjaaGreatDoor.Pn
open Go.RowKit Go.Maps Go.Sort Go.Lib Go.Proofs.YtbklpdcipfhdjaaGreatDoor.G Go.Proofs.YtbklpdcipfhdjaaGreatDoor.H Go.Proofs.YtbklpdcipfhdjaaGreatDoor.P Go.Proofs.YtbklpdcipfhdjaaGreatDoor.Q Go.Proofs.YtbklpdcipfhdjaaGreatDoor.T Go.Proofs.YtbklpdcipfhdjaaGreatDoor.W Go.Proofs.YtbklpdcipfhdjaaGreatDoor.X Go.Proofs.YtbklpdcipfhdjaaGreatDoor.Y Go.Proofs.YtbklpdcipfhdjaaGreatDoor.Pe Go.Proofs.YtbklpdcipfhdjaaGreatDoor.E Go.Proofs.YtbklpdcipfhdjaaGreatDoor.R Go.Proofs.YtbklpdcipfhdjaaGreatDoor.Cm Go.Proofs.YtbklpdcipfhdjaaGreatDoor.Pk Go.Proofs.YtbklpdcipfhdjaaGreatDoor.Pm Go.Proofs.YtbklpdcipfhdjaaGreatDoor.Gp Go.Proofs.YtbklpdcipfhdjaaGreatDoor.Rd Go.Proofs.YtbklpdcipfhdjaaGreatDoor.Pa Go.Proofs.YtbklpdcipfhdjaaGreatDoor.Srt Go.Proofs.YtbklpdcipfhdjaaGreatDoor.Gd Go.Proofs.YtbklpdcipfhdjaaGreatDoor.Uq

set_option maxHeartbeats 1000000 in
set_option maxRecDepth 100000 in
theorem impl_all (s m : ByteArray) (E0 : List Pr) (w : World) (hEl : E0.length ≤ 1048576)
    (h : Calls Tryz.prog 35 #[.string s] w fun e w' => ∃ B E, e = .returned (.tuple #[.string m, .map (some B), .nilIface]) ∧ PM w w' B E ∧ E.Perm E0) :
    Calls Tryz.prog 14 #[.string s] w fun e w' => ∃ v ps, e = .returned (.tuple #[.string m, v, .int .i64 0]) ∧ Pk.Good E0 w v w' ps := by
  obtain ⟨i0, hi, hz0, hz1, hz2⟩ := info_parts info38
  go_enter Tryz.func14, Tryz.ntmps14
  go_wp2_with fail
  refine h.mono ?_
  rintro e w1 ⟨B, E, rfl, hPM, hPE⟩
  have hb1 := hPM.below
  have hBge := hPM.ge
  obtain ⟨D, hown, hD⟩ := hPM.om
  have HD := Lib.hid hD
  have HPE := Lib.hid hPE
  have hEl2 : E.length ≤ 1048576 := by rw [hPE.length_eq]; exact hEl
  obtain ⟨n, hn⟩ : ∃ n, n = E.length := ⟨_, rfl⟩
  rw [← hn] at hown
  clear hPM hPE hn
  have HB1 := Lib.hid hb1
  have hBlt := hown.lt
  clear hb1 h hD
  go_wp2_with (at_range; refine wpList_range_own _ rfl _ 52 rfl 9 9 law Tryz.underlying52 _ B n D rfl hown ?_; intro w2 hrg0 hg2 hs2)
  go_frame
  have HW2 : Hid (Below w.heap.size w w2) := Lib.hid (HB1.out.grown hg2 HB1.out.size (fun j hj => by cases hj))
  have HR0 := Lib.hid hrg0
  obtain ⟨r, hr⟩ : ∃ r, r = w1.heap.size := ⟨_, rfl⟩
  rw [← hr] at HR0 hs2 hBlt
  have hrw : w.heap.size ≤ r := by rw [hr]; exact HB1.out.size
  rw [← hr]
  clear hrg0 hown hg2 hr
  go_loopw [8] (fun v wr => ∃ (ps : List Pr) (left : Lit → Bool) (cnt : Nat), (∃ ao k c, v = .slice ao k c) ∧ Hid (wr.ranges Tryz.prog 9 (plainElem Tryz.prog 9) B r n D left cnt) ∧ Hid (RS E left ps) ∧ Hid (wr.ownsRow (r + 1) 38 2 v ps.length (pc ps)) ∧ Hid (Below w.heap.size w wr) ∧ r + 1 ≤ wr.heap.size) (fun _ wr => wr.rangeLeft B r)
  case atStart => exact ⟨[], _, _, ⟨none, 0, 0, rfl⟩, HR0, Lib.hid (RS.start HD.out), Lib.hid ⟨by simp [pc], .inl ⟨rfl, rfl⟩⟩, HW2, by omega⟩
  case round =>
    obtain ⟨ps, left, cnt, ⟨ao, k, c, rfl⟩, HRG, HRS, HO, HBw, hrs⟩ := hrel
    have hrg := HRG.out
    go_wp2_with (at_next; refine wpList_next_ranges _ rfl _ rfl 9 law (plainElem (H := Unit) Tryz.prog 9) Value.string Value.string (fun key kl hkey => by obtain ⟨s, rfl, _⟩ := Go.WideMaps.string_of_keyOf Tryz.underlying9 hkey; exact ⟨s, rfl⟩) (fun v y hv => by obtain ⟨c, rfl, _⟩ := plainElem_string_inv Tryz.underlying9 hv; exact ⟨c, rfl⟩) B r n D left cnt rfl hrg ?_ ?_)
    · intro _ hl0
      have hperm := HRS.out.done HD.out hl0
      have hps := hperm.length_eq
      have HPM := Lib.hid hperm
      have hsz : ps.length ≤ 1048576 := by omega
      clear hperm hrg hl0
      rcases shape38 (World.ownsRowF_of HO.out) with ⟨e0, hk0⟩ | ⟨g, cp, e0⟩
      · simp only [Value.slice.injEq] at e0
        obtain ⟨rfl, rfl, rfl⟩ := e0
        have hps0 : ps = [] := List.eq_nil_of_length_eq_zero hk0
        have hs := Tryz.SortFunc_none none 0 (.func (.func 37) #[] #[]) wr
        have G : Hid (Pk.Good E0 w (.slice none 0 0) wr ps) := Lib.hid ⟨HPM.out.trans HPE.out, by rw [hps0]; exact List.Pairwise.nil, .inl ⟨rfl, hps0⟩, HBw.out⟩
        clear hps0 hk0 hps
        go_wp2_with fail
        refine hs.mono ?_
        rintro e w4 ⟨rfl, rfl⟩
        go_wp2_with fail
        go_ret3
        exact ⟨_, ps, rfl, G.out⟩
      · simp only [Value.slice.injEq] at e0
        obtain ⟨rfl, rfl, rfl⟩ := e0
        have hgl := HO.out.lt g (by simp [Value.ownBlock])
        have hH := holds_of HO.out rfl
        have hs := AnyQ.slices_SortFunc Tryz.sortPair 2 Tryz.isAgg38 Tryz.sizeOf38 encP (fun _ => rfl) (fun x v hv => by simp [encP] at hv; rcases hv with rfl | rfl <;> rfl) cmpP swoP 37 #[] g 0 c ps.toArray wr (enters_of Tryz.func37 (by kernel_rfl) rfl) (fun _ _ _ _ x y => closure37 x y _) hH hgl.2 (by simp; omega)
        have hs2 : Calls Tryz.prog 36 #[.slice (some ⟨g, 0, none⟩) ps.length c, .func (.func 37) #[] #[]] wr fun e w' => e = .returned (.tuple #[]) ∧ ∃ ps' : List Pr, ps'.length = ps.length ∧ Pk.Good E0 w (.slice (some ⟨g, 0, none⟩) ps'.length c) w' ps' := by
          have hs3 : Calls Tryz.prog 36 #[.slice (some ⟨g, 0, none⟩) ps.toArray.size c, .func (.func 37) #[] #[]] wr _ := hs
          rw [show ps.toArray.size = ps.length by simp] at hs3
          refine hs3.mono ?_
          rintro e w' ⟨he, d', nq, os, hp0, hso0, rfl⟩
          have hp : PermIn 0 ps.toArray.size ps.toArray d' := by rw [show ps.toArray.size = ps.length by simp]; exact hp0
          have hl2 : d'.size = ps.length := by have := hp.1; simpa using this
          have hso : SortedIn (ltOf cmpP) 0 d'.size d' := by rw [hl2]; exact hso0
          have hpl := perm_list hp
          have hlen : d'.toList.length = ps.length := hpl.length_eq
          exact ⟨he, d'.toList, hlen, hpl.trans (HPM.out.trans HPE.out), sorted_list hso, .inr ⟨g, c, rfl, rowP_sorted (holdsK_sortWorldK_c encP 2 wr g 0 ps.toArray d' nq os hH hgl.2 hp.1)⟩, below_sort HBw.out (by omega) (by omega)⟩
        have HS2 := Lib.hid hs2
        clear hs hs2 hH hgl hps
        go_wp2_with fail
        refine HS2.out.mono ?_
        rintro e w4 ⟨rfl, ps', hl', G⟩
        have HG := Lib.hid G
        have HL' := Lib.hid hl'
        clear G hl'
        go_wp2_with fail
        go_ret3
        exact ⟨_, ps', rfl, HL'.out ▸ HG.out⟩
    · intro x c1 kl y1 y2 w3 cnt1 hkey hlk hv hat hrg1 hlt hg1 hs1 hen
      obtain ⟨xs, ex, rfl, hxs⟩ := Go.WideMaps.string_of_keyOf Tryz.underlying9 hkey
      cases ex
      obtain ⟨cs, ec, ey, _⟩ := plainElem_string_inv Tryz.underlying9 hv
      simp only [Prod.mk.injEq] at ey
      obtain ⟨rfl, rfl⟩ := ey
      cases ec
      obtain ⟨hin, hstep⟩ := HRS.out.step HD.out hlk hat
      have HST := Lib.hid hstep
      have HIN := Lib.hid hin
      have hne : ∀ j, (Value.slice ao k c).ownBlock = some j → r + 1 ≤ j ∧ j < wr.heap.size := HO.out.lt
      have hO3 : w3.ownsRow (r + 1) 38 2 (.slice ao k c) ps.length (pc ps) := HO.out.kept hg1 (by
        cases ho : (Value.slice ao k c).ownBlock with
        | none => exact .inl rfl
        | some j => right; intro e; have := hne j ho; cases e; omega)
      have HO3 := Lib.hid hO3
      have HRG1 := Lib.hid hrg1
      have HB3 : Hid (Below w.heap.size w w3) := Lib.hid (HBw.out.grown hg1 (by omega) (fun j hj => by cases hj; omega))
      have hmeas : wr.rangeLeft B r = cnt := hrg.left_eq
      have hs3 : r + 1 ≤ w3.heap.size := by rw [hs1]; exact hrs
      have hpl : ps.length ≤ 1048576 := by
        have h1 := HRS.out.nodup
        have h2 : (ps.map (·.1)).length ≤ (E.map (·.1)).length := by
          refine len_le _ _ h1 ?_
          intro a ha
          obtain ⟨p, hp, rfl⟩ := List.mem_map.1 ha
          exact List.mem_map.2 ⟨p, (HRS.out.sub p hp).1, rfl⟩
        simp at h2
        omega
      have HNE := Lib.hid hne
      clear hlk hat hv hkey hxs hstep hin hO3 hrg1 hg1 hne hrg hs1
      go_wp2_with (at_builtin; refine wpList_append_own _ rfl _ _ 28 rfl (r + 1) 38 i0 (.agg #[.string ⟨#[]⟩, .string ⟨#[]⟩]) 2 32 Tryz.underlying28 hi hz0 hz1 hz2 rfl (by decide) _ _ _ rfl (HO3.out.alloc _) _ 1 1 [.string x, .string c1] rfl rfl ?c1 ?c2 ?c3 ?c4 ?c5 ?_)
      case c1 =>
        intro j u hj
        match j, hj with
        | 0, hj => simp at hj; subst hj; simp [Addr.add]
        | 1, hj => simp at hj; subst hj; simp [Addr.add]
      case c2 => intro u hu; simp at hu; rcases hu with rfl | rfl <;> rfl
      case c3 => unfold maxLen; omega
      case c4 => omega
      case c5 => simp; omega
      intro v' w4 hown' hgrow _
      have hsh : ∃ ao m c, v' = .slice ao m c := by
        rcases shape38 (World.ownsRowF_of hown') with ⟨h, _⟩ | ⟨g, cp, h⟩
        · exact ⟨_, _, _, h⟩
        · exact ⟨_, _, _, h⟩
      have hge : ∀ j, (Value.slice ao k c).ownBlock = some j → r + 1 ≤ j := fun j hj => (HNE.out j hj).1
      have G1 : Hid (w4.ownsRow (r + 1) 38 2 v' (ps ++ [(x, c1)]).length (pc (ps ++ [(x, c1)]))) := Lib.hid (by
        rw [pc_snoc, List.length_append]
        exact hown')
      have G2 : Hid (Below w.heap.size w w4) := Lib.hid ((HB3.out.alloc (by omega) _).grown hgrow (by simp; omega) (fun j hj => by have := hge j hj; omega))
      have G3 : Hid (w4.ranges Tryz.prog 9 (plainElem Tryz.prog 9) B r n D (fun z => left z && !z.sameKey (.string (bl x))) cnt1) := Lib.hid ((HRG1.out.alloc _).kept hgrow (by intro e; have := hge B e.symm; omega) (by intro e; have := hge r e.symm; omega))
      have G4 : r + 1 ≤ w4.heap.size := by have := hgrow.size; simp at this; omega
      have G5 : Hid (w4.rangeLeft B r < wr.rangeLeft B r) := Lib.hid (by rw [G3.out.left_eq, hmeas]; exact hlt)
      clear hown' hgrow hge hmeas
      obtain ⟨ao2, m2, cc2, rfl⟩ := hsh
      go_wp2_with fail
      exact ⟨⟨ps ++ [(x, c1)], _, cnt1, ⟨_, _, _, rfl⟩, G3, HST, G1, G2, G4⟩, G5.out⟩


/-- Parse at parameters whose names may hold asterisks: a slice of what they give, by ascending names. -/
theorem parse_stars (e0 e1 : Value) (s t : ByteArray) (l : List Wn) (X : ByteArray → List UInt8) (w : World) (hE : Env e0 e1 w) (hs : s.size ≤ 1099511627776) (hl : bl s = bl t ++ texts l) (ht : isType t = true) (hx : Nm l) (hll : l.length ≤ 524288)
    (hSt : ∀ g ∈ groups l, St g.2 g.1 (X g.1)) (hdis : ∀ g ∈ groups l, ∀ p ∈ plains l, p.1 ≠ g.1) (hbs : ∀ g ∈ groups l, g.1.size ≤ 1099511627000)
    (hnd : ((plains l ++ (groups l).map fun g => (g.1, tx (X g.1))).map (·.1)).Nodup) :
    Calls Tryz.prog 14 #[.string s] w fun e w' => ∃ v, e = .returned (.tuple #[.string (lower t), v, .int .i64 0]) ∧ Pv v (sortP (plains l ++ (groups l).map fun g => (g.1, tx (X g.1)))) w' ∧ Below w.heap.size w w' := by
  have h1 := plains_len l
  have h2 := groups_len l
  refine (impl_all s (lower t) _ w (by rw [List.length_append, List.length_map]; omega) (parse_all e0 e1 s t l X w hE hs hl ht hx hSt hdis hbs)).mono ?_
  rintro e w' ⟨v, ps, rfl, h⟩
  refine ⟨v, rfl, ?_, h.below⟩
  rw [uniq hnd h.perm h.sorted]
  exact h.own
end Go.Proofs.YtbklpdcipfhdjaaGreatDoor.Pn
