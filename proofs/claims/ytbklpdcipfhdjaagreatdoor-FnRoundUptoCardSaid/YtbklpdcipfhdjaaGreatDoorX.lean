/- The walks of Pairs and Well: what it means that written parameters are well. -/
import Derived.Test.YtbklpdcipfhdjaaGreatDoorW
namespace Go.Proofs.YtbklpdcipfhdjaaGreatDoor.X
open Go.RowKit Go.Proofs.YtbklpdcipfhdjaaGreatDoor.A Go.Proofs.YtbklpdcipfhdjaaGreatDoor.C Go.Proofs.YtbklpdcipfhdjaaGreatDoor.D Go.Proofs.YtbklpdcipfhdjaaGreatDoor.E Go.Proofs.YtbklpdcipfhdjaaGreatDoor.F Go.Proofs.YtbklpdcipfhdjaaGreatDoor.G Go.Proofs.YtbklpdcipfhdjaaGreatDoor.H Go.Proofs.YtbklpdcipfhdjaaGreatDoor.P Go.Proofs.YtbklpdcipfhdjaaGreatDoor.Q Go.Proofs.YtbklpdcipfhdjaaGreatDoor.R Go.Proofs.YtbklpdcipfhdjaaGreatDoor.S Go.Proofs.YtbklpdcipfhdjaaGreatDoor.T Go.Proofs.YtbklpdcipfhdjaaGreatDoor.V Go.Proofs.YtbklpdcipfhdjaaGreatDoor.W

/-- The cells of names and values. -/
def pc (l : List Pr) : List Value := l.flatMap fun p => [.string p.1, .string p.2]
theorem pc_len (l : List Pr) : (pc l).length = l.length * 2 := by
  induction l with
  | nil => rfl
  | cons p l ih => simp only [pc, List.flatMap_cons, List.length_append, List.length_cons, List.length_nil] at ih ⊢; omega
theorem pc_get : ∀ (l : List Pr) (i : Nat) (p : Pr), l[i]? = some p → (pc l)[i * 2]? = some (.string p.1) ∧ (pc l)[i * 2 + 1]? = some (.string p.2)
  | [], _, _, h => by simp at h
  | q :: l, 0, p, h => by simp at h; subst h; exact ⟨rfl, rfl⟩
  | q :: l, i + 1, p, h => by
    have := pc_get l i p (by simpa using h)
    have e : pc (q :: l) = [.string q.1, .string q.2] ++ pc l := rfl
    rw [e, List.getElem?_append_right (by simp; omega), List.getElem?_append_right (by simp; omega)]
    simp only [List.length_cons, List.length_nil]
    rw [show (i + 1) * 2 - (0 + 1 + 1) = i * 2 by omega, show (i + 1) * 2 + 1 - (0 + 1 + 1) = i * 2 + 1 by omega]
    exact this
theorem pc_snoc (l : List Pr) (p : Pr) : pc (l ++ [p]) = pc l ++ [.string p.1, .string p.2] := by simp [pc]
def prs (l : List Wn) : List Pr := l.map fun x => (x.name, x.value)

/-- A row of names and values that the call has made. -/
theorem rowP_of {w : World} {B g cap : Nat} {n : Nat} {l : List Pr} (h : w.ownsRowF B 38 2 (.slice (some ⟨g, 0, none⟩) n cap) n (pc l)) : l.length = n ∧ n ≤ cap ∧ RowP w g 0 l := by
  obtain ⟨hl, h⟩ := h
  rw [pc_len] at hl
  rcases h with ⟨h, _⟩ | ⟨g', cap', cur, fz, hv, _, hg, _, hc, _, _, ht⟩
  · cases h
  · simp only [Value.slice.injEq, Option.some.injEq, Addr.mk.injEq, and_true, true_and] at hv
    obtain ⟨rfl, rfl⟩ := hv
    refine ⟨by omega, hc, fun i p hp => ?_⟩
    have hi : i < l.length := (List.getElem?_eq_some_iff.1 hp).1
    have key : ∀ j v, j < n * 2 → (pc l)[j]? = some v → w.cell? ⟨g, 0 + j, none⟩ = some v := by
      intro j v hj hv
      rw [← ht, List.getElem?_take_of_lt hj] at hv
      rw [Lib.cell_of_heap hg]
      simpa using hv
    obtain ⟨h0, h1⟩ := pc_get l i p hp
    exact ⟨key _ _ (by omega) h0, key _ _ (by omega) h1⟩

theorem info38 : (Tryz.prog.info? 38).map (fun i => (i.zero, i.size, i.bytes)) = some (some (.agg #[.string ⟨#[]⟩, .string ⟨#[]⟩]), 2, 32) := by kernel_rfl

theorem shape38 {B : Nat} {v' : Value} {n : Nat} {xs : List Value} {w2 : World} (hown' : w2.ownsRowF B 38 2 v' n xs) : (v' = .slice none 0 0 ∧ n = 0) ∨ ∃ g cap, v' = .slice (some ⟨g, 0, none⟩) n cap := by
  rcases hown'.2 with ⟨hv, hn⟩ | ⟨g, cap, cur, fz, hv, _⟩
  · exact .inl ⟨hv, hn⟩
  · exact .inr ⟨g, cap, hv⟩

set_option maxHeartbeats 1000000 in
set_option maxRecDepth 100000 in
theorem pairs_none (ao : Option Addr) (cap : Nat) (w : World) :
    Calls Tryz.prog 28 #[.slice ao 0 cap] w fun e w' => e = .returned (.slice none 0 0) ∧ Below w.heap.size w w' := by
  go_enter Tryz.func28, Tryz.ntmps28
  go_wp2_with fail
  refine wp_loop_rounds 1 ?_
  rw [rounds_succ]
  go_wp2_with fail
  go_ret
  exact ⟨rfl, Below.refl _ _⟩

set_option maxHeartbeats 2000000 in
set_option maxRecDepth 100000 in
theorem pairs_row (b off cap : Nat) (l : List Wn) (w : World) (hl : l.length ≤ 1099511627776) (h : RowW w b off l) :
    Calls Tryz.prog 28 #[.slice (some ⟨b, off, none⟩) l.length cap] w fun e w' => ∃ v, e = .returned v ∧ w'.ownsRowF w.heap.size 38 2 v l.length (pc (prs l)) ∧ Below w.heap.size w w' := by
  have H := Lib.hid h
  clear h
  obtain ⟨i0, hi, hz0, hz1, hz2⟩ := info_parts info38
  generalize hn : l.length = n at *
  have HN := Lib.hid hn
  clear hn
  go_enter Tryz.func28, Tryz.ntmps28
  go_wp2_with fail
  go_loopw [3, 8] (fun v i wr => ∃ k : Nat, k ≤ n ∧ i = .int .i64 k ∧ (∃ ao m c, v = .slice ao m c) ∧ Hid (wr.ownsRowF w.heap.size 38 2 v k (pc (prs (l.take k)))) ∧ Hid (Below w.heap.size w wr)) (fun _ i _ => n - (intOf i).toNat)
  case atStart => exact ⟨0, Nat.zero_le _, rfl, ⟨none, 0, 0, rfl⟩, Lib.hid ⟨by simp [prs, pc], .inl ⟨rfl, rfl⟩⟩, Lib.hid (Below.refl _ _)⟩
  case round =>
    obtain ⟨k, hk, rfl, ⟨ao, m, c, rfl⟩, HO, HB⟩ := hrel
    by_cases hlt : k < n
    · obtain ⟨x, hx⟩ : ∃ x, l[k]? = some x := ⟨l[k]'(by rw [HN.out]; exact hlt), List.getElem?_eq_getElem _⟩
      obtain ⟨c0, c1, c2, c3, c4⟩ := (H.out.below HB.out) k x hx
      have HT := Lib.hid (take_snoc hx)
      clear hx
      have hB : w.heap.size ≤ wr.heap.size := HB.out.size
      go_wp2_with (at_builtin; refine wpList_append_ownF _ rfl _ _ 28 rfl w.heap.size 38 i0 (.agg #[.string ⟨#[]⟩, .string ⟨#[]⟩]) 2 32 Tryz.underlying28 hi hz0 hz1 hz2 rfl (by decide) _ _ _ rfl ((HO.out.alloc _).alloc _) _ 1 1 [.string x.name, .string x.value] rfl rfl ?c1 ?c2 ?c3 ?c4 ?c5 ?_)
      case c1 =>
        intro j u hj
        match j, hj with
        | 0, hj => simp at hj; subst hj; simp [Addr.add]
        | 1, hj => simp at hj; subst hj; simp [Addr.add]
      case c2 => intro u hu; simp at hu; rcases hu with rfl | rfl <;> rfl
      case c3 => unfold maxLen; omega
      case c4 => omega
      case c5 => simp; omega
      intro v' w2 hown' hgrow _
      have hsh : ∃ ao m c, v' = .slice ao m c := by
        rcases shape38 hown' with ⟨h, _⟩ | ⟨g, cp, h⟩
        · exact ⟨_, _, _, h⟩
        · exact ⟨_, _, _, h⟩
      have G1 : Hid (w2.ownsRowF w.heap.size 38 2 v' (k + 1) (pc (prs (l.take (k + 1))))) := Lib.hid (by
        rw [HT.out]
        unfold prs at hown' ⊢
        rw [List.map_append, List.map_cons, List.map_nil, pc_snoc]
        exact hown')
      have G2 : Hid (Below w.heap.size w w2) := Lib.hid (((HB.out.alloc HB.out.size _).alloc (by simp; omega) _).grown hgrow (by simp; omega) (fun j hj => ?c6))
      case c6 =>
        rcases HO.out.2 with ⟨h, _⟩ | ⟨g, cp, cur, fz, h, hg, _⟩
        · rw [h] at hj; simp [Value.ownBlock] at hj
        · rw [h] at hj; simp [Value.ownBlock] at hj; omega
      clear hown' hgrow
      obtain ⟨ao2, m2, cc2, rfl⟩ := hsh
      go_wp2_with fail
      exact ⟨⟨k + 1, by omega, by go_num, ⟨_, _, _, rfl⟩, G1, G2⟩, by simp [intOf]; omega⟩
    · obtain rfl : k = n := by omega
      have G : Hid (wr.ownsRowF w.heap.size 38 2 (.slice ao m c) k (pc (prs l))) := Lib.hid (by have := HO.out; rwa [List.take_of_length_le (by rw [HN.out]; exact Nat.le_refl _)] at this)
      go_wp2_with fail
      go_ret
      exact ⟨_, rfl, G.out, HB.out⟩

/-- The strings of a written parameter are not too long. -/
structure Sm (x : Wn) : Prop where
  a : x.ahead.size ≤ 1099511627776
  b : x.behind.size ≤ 1099511627776
  n : x.name.size ≤ 1099511627776
  v : x.value.size ≤ 1099511627776
structure Wr0 (x : Wn) : Prop where
  ahead : blanks x.ahead = true
  behind : blanks x.behind = true
  print : printB x.value = true
  val : x.quoted = true ∨ isTok x.value = true

theorem apart_of {l : List Wn} (h0 : ∀ x ∈ l, Wr0 x) (h1 : NamesP (prs l)) : Apart l := by
  have hm : ∀ x ∈ l, (x.name, x.value) ∈ prs l := fun x hx => List.mem_map.2 ⟨x, hx, rfl⟩
  refine ⟨fun x hx => ?_, fun x hx => ?_, ?_⟩
  · have h := h0 x hx
    have ha := h.ahead
    have hb := h.behind
    unfold blanks at ha hb
    rw [Bool.and_eq_true] at ha hb
    exact ⟨ha.1, hb.1, h.print, h.val, h1.tok _ (hm x hx)⟩
  · have := h1.star _ (hm x hx)
    unfold has at this
    rw [List.any_eq_false] at this
    intro h
    exact this 42 h (by decide)
  · have := h1.apart
    unfold prs at this
    rw [List.map_map] at this
    exact this

set_option maxHeartbeats 4000000 in
set_option maxRecDepth 100000 in
theorem well_row (b off cap : Nat) (l : List Wn) (w : World) (hl : l.length ≤ 1099511627776) (hsm : ∀ x ∈ l, Sm x) (h : RowW w b off l) :
    Calls Tryz.prog 13 #[.slice (some ⟨b, off, none⟩) l.length cap] w fun e w' => (∃ v, e = .returned (.bool v) ∧ (v = true → Apart l)) ∧ Below w.heap.size w w' := by
  have H := Lib.hid h
  have HS := Lib.hid hsm
  clear h hsm
  have hpairs := fun W hW => pairs_row b off cap l W hl hW
  have HP := Lib.hid hpairs
  clear hpairs
  generalize hn : l.length = n at *
  have HN := Lib.hid hn
  clear hn
  go_enter Tryz.func13, Tryz.ntmps13
  go_wp2_with fail
  go_loopw [7] (fun i wr => ∃ k : Nat, k ≤ n ∧ i = .int .i64 k ∧ Hid (Below w.heap.size w wr) ∧ Hid (∀ y ∈ l.take k, Wr0 y)) (fun i _ => n - (intOf i).toNat)
  case atStart => exact ⟨0, Nat.zero_le _, rfl, Lib.hid (Below.refl _ _), Lib.hid (by simp)⟩
  case round =>
    obtain ⟨k, hk, rfl, HB, HQ⟩ := hrel
    by_cases hlt : k < n
    · obtain ⟨x, hx⟩ : ∃ x, l[k]? = some x := ⟨l[k]'(by rw [HN.out]; exact hlt), List.getElem?_eq_getElem _⟩
      obtain ⟨c0, c1, c2, c3, c4⟩ := (H.out.below HB.out) k x hx
      have hsm := HS.out x (List.mem_of_getElem? hx)
      have HT := Lib.hid (take_snoc hx)
      clear hx
      obtain ⟨w5, hw5⟩ : ∃ w5, w5 = wr.alloc (.cells #[.string x.ahead, .string x.behind, .string x.name, .string x.value, .bool x.quoted] 24) := ⟨_, rfl⟩
      have HB5 : Hid (Below w.heap.size w w5) := Lib.hid (by rw [hw5]; exact HB.out.alloc HB.out.size _)
      have d0 : w5.cell? ⟨wr.heap.size, 0, none⟩ = some (.string x.ahead) := by rw [hw5, Lib.cell_of_heap (heap_alloc_new wr _)]; rfl
      have d1 : w5.cell? ⟨wr.heap.size, 1, none⟩ = some (.string x.behind) := by rw [hw5, Lib.cell_of_heap (heap_alloc_new wr _)]; rfl
      have d3 : w5.cell? ⟨wr.heap.size, 3, none⟩ = some (.string x.value) := by rw [hw5, Lib.cell_of_heap (heap_alloc_new wr _)]; rfl
      have d4 : w5.cell? ⟨wr.heap.size, 4, none⟩ = some (.bool x.quoted) := by rw [hw5, Lib.cell_of_heap (heap_alloc_new wr _)]; rfl
      have h1 := blanks_any x.ahead w5 hsm.a
      have h2 := blanks_any x.behind w5 hsm.b
      have h3 := printable_any x.value w5 hsm.v
      have h4 := isToken_any x.value w5 hsm.v
      cases e1 : blanks x.ahead with
      | false =>
        rw [e1] at h1
        go_wp2_with fail
        rw [← hw5]
        clear hw5
        refine h1.mono ?_
        rintro e w6 ⟨rfl, rfl⟩
        go_wp2_with fail
        go_ret
        exact ⟨⟨_, rfl, by intro h; cases h⟩, HB5.out⟩
      | true =>
        rw [e1] at h1
        cases e2 : blanks x.behind with
        | false =>
          rw [e2] at h2
          go_wp2_with fail
          rw [← hw5]
          clear hw5
          refine h1.mono ?_
          rintro e w6 ⟨rfl, rfl⟩
          go_wp2_with fail
          refine h2.mono ?_
          rintro e w6 ⟨rfl, rfl⟩
          go_wp2_with fail
          go_ret
          exact ⟨⟨_, rfl, by intro h; cases h⟩, HB5.out⟩
        | true =>
          rw [e2] at h2
          cases e3 : printB x.value with
          | false =>
            rw [e3] at h3
            go_wp2_with fail
            rw [← hw5]
            clear hw5
            refine h1.mono ?_
            rintro e w6 ⟨rfl, rfl⟩
            go_wp2_with fail
            refine h2.mono ?_
            rintro e w6 ⟨rfl, rfl⟩
            go_wp2_with fail
            refine h3.mono ?_
            rintro e w6 ⟨rfl, rfl⟩
            go_wp2_with fail
            go_ret
            exact ⟨⟨_, rfl, by intro h; cases h⟩, HB5.out⟩
          | true =>
            rw [e3] at h3
            cases e4 : x.quoted with
            | true =>
              have HW : Hid (Wr0 x) := Lib.hid ⟨e1, e2, e3, .inl e4⟩
              rw [e4] at c4 hw5 d4
              clear e1 e2 e3 e4
              go_wp2_with fail
              rw [← hw5]
              clear hw5
              refine h1.mono ?_
              rintro e w6 ⟨rfl, rfl⟩
              go_wp2_with fail
              refine h2.mono ?_
              rintro e w6 ⟨rfl, rfl⟩
              go_wp2_with fail
              refine h3.mono ?_
              rintro e w6 ⟨rfl, rfl⟩
              have G : Hid (∀ y ∈ l.take (k + 1), Wr0 y) := Lib.hid (by
                rw [HT.out]
                intro y hy
                rcases List.mem_append.1 hy with h | h
                · exact HQ.out y h
                · simp at h; subst h; exact HW.out)
              go_wp2_with fail
              exact ⟨⟨k + 1, by omega, by go_num, HB5, G⟩, by simp [intOf]; omega⟩
            | false =>
              cases e5 : isTok x.value with
              | false =>
                rw [e5] at h4
                rw [e4] at c4 hw5 d4
                clear e1 e2 e3 e4 e5
                go_wp2_with fail
                rw [← hw5]
                clear hw5
                refine h1.mono ?_
                rintro e w6 ⟨rfl, rfl⟩
                go_wp2_with fail
                refine h2.mono ?_
                rintro e w6 ⟨rfl, rfl⟩
                go_wp2_with fail
                refine h3.mono ?_
                rintro e w6 ⟨rfl, rfl⟩
                go_wp2_with fail
                refine h4.mono ?_
                rintro e w6 ⟨rfl, rfl⟩
                go_wp2_with fail
                go_ret
                exact ⟨⟨_, rfl, by intro h; cases h⟩, HB5.out⟩
              | true =>
                have HW : Hid (Wr0 x) := Lib.hid ⟨e1, e2, e3, .inr e5⟩
                rw [e5] at h4
                rw [e4] at c4 hw5 d4
                clear e1 e2 e3 e4 e5
                go_wp2_with fail
                rw [← hw5]
                clear hw5
                refine h1.mono ?_
                rintro e w6 ⟨rfl, rfl⟩
                go_wp2_with fail
                refine h2.mono ?_
                rintro e w6 ⟨rfl, rfl⟩
                go_wp2_with fail
                refine h3.mono ?_
                rintro e w6 ⟨rfl, rfl⟩
                go_wp2_with fail
                refine h4.mono ?_
                rintro e w6 ⟨rfl, rfl⟩
                have G : Hid (∀ y ∈ l.take (k + 1), Wr0 y) := Lib.hid (by
                  rw [HT.out]
                  intro y hy
                  rcases List.mem_append.1 hy with h | h
                  · exact HQ.out y h
                  · simp at h; subst h; exact HW.out)
                go_wp2_with fail
                exact ⟨⟨k + 1, by omega, by go_num, HB5, G⟩, by simp [intOf]; omega⟩
    · obtain rfl : k = n := by omega
      have G : Hid (∀ y ∈ l, Wr0 y) := Lib.hid (by have := HQ.out; rwa [List.take_of_length_le (by rw [HN.out]; exact Nat.le_refl _)] at this)
      have hp := HP.out wr (H.out.below HB.out)
      have HNm : Hid (∀ p ∈ prs l, p.1.size ≤ 1099511627776) := Lib.hid (by
        intro p hp
        obtain ⟨x, hx, rfl⟩ := List.mem_map.1 hp
        exact (HS.out x hx).n)
      go_wp2_with fail
      refine hp.mono ?_
      clear hp
      rintro e w6 ⟨v, rfl, hO, hB6⟩
      have HB6 := Lib.hid (chain HB.out hB6)
      have hpl : (prs l).length = k := by unfold prs; rw [List.length_map]; exact HN.out
      rcases shape38 hO with ⟨rfl, hk0⟩ | ⟨g, cp, rfl⟩
      · have HA : Hid (Apart l) := Lib.hid (apart_of G.out (by
          have : prs l = [] := List.eq_nil_of_length_eq_zero (by omega)
          rw [this]; exact NamesP.nil))
        have hnn := names_none none 0 w6
        clear hO hB6
        go_wp2_with fail
        refine hnn.mono ?_
        rintro e w7 ⟨rfl, hB7⟩
        have HB7 := Lib.hid (chain HB6.out hB7)
        clear hB7
        go_wp2_with fail
        go_ret
        exact ⟨⟨_, rfl, fun _ => HA.out⟩, HB7.out⟩
      · obtain ⟨_, hcp, hrow⟩ := rowP_of hO
        have hnn := names_row g 0 cp (prs l) w6 (by omega) (by omega) HNm.out hrow
        rw [hpl] at hnn
        have HNN := Lib.hid hnn
        clear hO hB6 hrow hnn hpl
        go_wp2_with fail
        refine HNN.out.mono ?_
        rintro e w7 ⟨⟨v, rfl, hv⟩, hB7⟩
        have HB7 := Lib.hid (chain HB6.out hB7)
        have HA : Hid (v = true → Apart l) := Lib.hid (fun h => apart_of G.out (hv h))
        clear hB7 hv
        go_wp2_with fail
        go_ret
        exact ⟨⟨_, rfl, HA.out⟩, HB7.out⟩

end Go.Proofs.YtbklpdcipfhdjaaGreatDoor.X
