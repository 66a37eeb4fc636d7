/- The walks of Names, Pairs and Well over lists of written parameters: what it means that they hold. -/
import Derived.Test.YtbklpdcipfhdjaaGreatDoorV
import Derived.Lib.FrozenHead2
namespace Go.Proofs.YtbklpdcipfhdjaaGreatDoor.W
open Go.RowKit Go.Proofs.YtbklpdcipfhdjaaGreatDoor.A Go.Proofs.YtbklpdcipfhdjaaGreatDoor.C Go.Proofs.YtbklpdcipfhdjaaGreatDoor.D Go.Proofs.YtbklpdcipfhdjaaGreatDoor.E Go.Proofs.YtbklpdcipfhdjaaGreatDoor.F Go.Proofs.YtbklpdcipfhdjaaGreatDoor.G Go.Proofs.YtbklpdcipfhdjaaGreatDoor.H Go.Proofs.YtbklpdcipfhdjaaGreatDoor.P Go.Proofs.YtbklpdcipfhdjaaGreatDoor.Q Go.Proofs.YtbklpdcipfhdjaaGreatDoor.R Go.Proofs.YtbklpdcipfhdjaaGreatDoor.S Go.Proofs.YtbklpdcipfhdjaaGreatDoor.T Go.Proofs.YtbklpdcipfhdjaaGreatDoor.V

/-- Names and values. -/
abbrev Pr := ByteArray × ByteArray
def RowP (w : World) (b off : Nat) (l : List Pr) : Prop := ∀ i x, l[i]? = some x →
  w.cell? ⟨b, off + i * 2, none⟩ = some (.string x.1) ∧ w.cell? ⟨b, off + i * 2 + 1, none⟩ = some (.string x.2)
theorem RowP.below {w w' : World} {b off : Nat} {l : List Pr} (h : RowP w b off l) (hb : Below w.heap.size w w') : RowP w' b off l := by
  intro i x hx
  obtain ⟨h0, h1⟩ := h i x hx
  have hlt := cell_lt h0
  exact ⟨(hb.cell (p := ⟨b, off + i * 2, none⟩) hlt).trans h0, (hb.cell (p := ⟨b, off + i * 2 + 1, none⟩) hlt).trans h1⟩

/-- The names are tokens without asterisks, and apart in small letters. -/
structure NamesP (l : List Pr) : Prop where
  tok : ∀ p ∈ l, isTok p.1 = true
  star : ∀ p ∈ l, has p.1 42 = false
  apart : (l.map fun p => lower p.1).Nodup
theorem NamesP.nil : NamesP [] := ⟨by simp, by simp, by simp⟩
theorem NamesP.snoc {l : List Pr} {p : Pr} (h : NamesP l) (h1 : isTok p.1 = true) (h2 : has p.1 42 = false) (h3 : ∀ q ∈ l, lower q.1 ≠ lower p.1) : NamesP (l ++ [p]) := by
  refine ⟨fun q hq => ?_, fun q hq => ?_, ?_⟩
  · rcases List.mem_append.1 hq with h' | h'
    · exact h.tok q h'
    · simp at h'; subst h'; exact h1
  · rcases List.mem_append.1 hq with h' | h'
    · exact h.star q h'
    · simp at h'; subst h'; exact h2
  · rw [List.map_append, List.nodup_append]
    refine ⟨h.apart, by simp, ?_⟩
    intro a ha b hb
    obtain ⟨q, hq, rfl⟩ := List.mem_map.1 ha
    simp at hb
    subst hb
    exact h3 q hq
theorem take_snoc {α : Type} {l : List α} {k : Nat} {x : α} (h : l[k]? = some x) : l.take (k + 1) = l.take k ++ [x] := by
  rw [List.take_add_one, h]; rfl

set_option maxHeartbeats 1000000 in
set_option maxRecDepth 100000 in
theorem names_none (ao : Option Addr) (cap : Nat) (w : World) :
    Calls Tryz.prog 19 #[.slice ao 0 cap] w fun e w' => e = .returned (.bool true) ∧ Below w.heap.size w w' := by
  go_enter Tryz.func19, Tryz.ntmps19
  go_wp2_with fail
  refine wp_loop_rounds 1 ?_
  rw [rounds_succ]
  go_wp2_with fail
  go_ret
  exact ⟨rfl, Below.refl _ _⟩

/-- Two boxes that hold a text each. -/
structure Two (w0 : World) (B4 B6 : Nat) (x y : ByteArray) (W : World) : Prop where
  cy : W.cell? ⟨B6, 0, none⟩ = some (.string y)
  cx : W.cell? ⟨B4, 0, none⟩ = some (.string x)
  l4 : B4 < W.heap.size
  l6 : B6 < W.heap.size
  below : Below w0.heap.size w0 W
theorem Two.step {w0 : World} {B4 B6 : Nat} {x y : ByteArray} {W W' : World} (hb : Below W.heap.size W W') (h : Two w0 B4 B6 x y W) : Two w0 B4 B6 x y W' :=
  ⟨(hb.cell (p := ⟨B6, 0, none⟩) h.l6).trans h.cy, (hb.cell (p := ⟨B4, 0, none⟩) h.l4).trans h.cx, Nat.lt_of_lt_of_le h.l4 hb.size, Nat.lt_of_lt_of_le h.l6 hb.size, chain h.below hb⟩

set_option maxHeartbeats 4000000 in
set_option maxRecDepth 100000 in
theorem names_row (b off cap : Nat) (l : List Pr) (w : World) (hcap : l.length ≤ cap) (hl : l.length ≤ 1099511627776) (hsz : ∀ p ∈ l, p.1.size ≤ 1099511627776) (h : RowP w b off l) :
    Calls Tryz.prog 19 #[.slice (some ⟨b, off, none⟩) l.length cap] w fun e w' => (∃ v, e = .returned (.bool v) ∧ (v = true → NamesP l)) ∧ Below w.heap.size w w' := by
  have H := Lib.hid h
  have HS := Lib.hid hsz
  clear h hsz
  generalize hn : l.length = n at *
  have HN := Lib.hid hn
  clear hn
  go_enter Tryz.func19, Tryz.ntmps19
  go_wp2_with fail
  go_loopw [9] (fun i wr => ∃ k : Nat, k ≤ n ∧ i = .int .i64 k ∧ Hid (Below w.heap.size w wr) ∧ Hid (NamesP (l.take k))) (fun i _ => n - (intOf i).toNat)
  case atStart => exact ⟨0, Nat.zero_le _, rfl, Lib.hid (Below.refl _ _), Lib.hid NamesP.nil⟩
  case round =>
    obtain ⟨k, hk, rfl, HB, HP⟩ := hrel
    by_cases hlt : k < n
    · obtain ⟨x, hx⟩ : ∃ x, l[k]? = some x := ⟨l[k]'(by rw [HN.out]; exact hlt), List.getElem?_eq_getElem _⟩
      have hxs := HS.out x (List.mem_of_getElem? hx)
      obtain ⟨c0, c1⟩ := (H.out.below HB.out) k x hx
      have HX := Lib.hid hx
      clear hx
      obtain ⟨w5, hw5⟩ : ∃ w5, w5 = wr.alloc (.cells #[.string x.1, .string x.2] 38) := ⟨_, rfl⟩
      have HB5 : Hid (Below w.heap.size w w5) := Lib.hid (by rw [hw5]; exact HB.out.alloc HB.out.size _)
      have hbx : w5.cell? ⟨wr.heap.size, 0, none⟩ = some (.string x.1) := by rw [hw5, Lib.cell_of_heap (heap_alloc_new wr _)]; rfl
      have HBX := Lib.hid hbx
      have hB4 : wr.heap.size < w5.heap.size := by rw [hw5]; simp
      have ht := isToken_any x.1 w5 hxs
      have hs := within_any x.1 42 w5 hxs
      cases hb1 : isTok x.1 with
      | false =>
        rw [hb1] at ht
        go_wp2_with fail
        rw [← hw5]
        clear hw5
        refine ht.mono ?_
        rintro e w6 ⟨rfl, rfl⟩
        go_wp2_with fail
        go_ret
        exact ⟨⟨_, rfl, by intro h; cases h⟩, HB5.out⟩
      | true =>
        rw [hb1] at ht
        cases hb2 : has x.1 42 with
        | true =>
          rw [hb2] at hs
          go_wp2_with fail
          rw [← hw5]
          clear hw5
          refine ht.mono ?_
          rintro e w6 ⟨rfl, rfl⟩
          go_wp2_with fail
          refine hs.mono ?_
          rintro e w6 ⟨rfl, rfl⟩
          go_wp2_with fail
          go_ret
          exact ⟨⟨_, rfl, by intro h; cases h⟩, HB5.out⟩
        | false =>
          rw [hb2] at hs
          have HT := Lib.hid hb1
          have HSt := Lib.hid hb2
          clear hb1 hb2
          have hkc : k ≤ cap := by omega
          go_wp2_with fail
          rw [← hw5]
          clear hw5
          refine ht.mono ?_
          rintro e w6 ⟨rfl, rfl⟩
          go_wp2_with fail
          refine hs.mono ?_
          rintro e w6 ⟨rfl, rfl⟩
          clear ht hs
          generalize wr.heap.size = B4 at *
          go_wp2_with fail
          go_loopw [27] (fun i wr => ∃ m : Nat, m ≤ k ∧ i = .int .i64 m ∧ Hid (Below w5.heap.size w5 wr) ∧ Hid (∀ q ∈ l.take m, lower q.1 ≠ lower x.1)) (fun i _ => k - (intOf i).toNat)
          case atStart => exact ⟨0, Nat.zero_le _, rfl, Lib.hid (Below.refl _ _), Lib.hid (by simp)⟩
          case round =>
            obtain ⟨m, hm, rfl, HBi, HQ⟩ := hrel
            by_cases hmk : m < k
            · obtain ⟨y, hy⟩ : ∃ y, l[m]? = some y := ⟨l[m]'(by rw [HN.out]; omega), List.getElem?_eq_getElem _⟩
              have hys := HS.out y (List.mem_of_getElem? hy)
              have HY := Lib.hid (take_snoc hy)
              obtain ⟨d0, d1⟩ := (H.out.below (chain HB5.out HBi.out)) m y hy
              clear hy
              obtain ⟨w7, hw7⟩ : ∃ w7, w7 = wr.alloc (.cells #[.string y.1, .string y.2] 38) := ⟨_, rfl⟩
              have HB7 : Hid (Below w5.heap.size w5 w7) := Lib.hid (by rw [hw7]; exact HBi.out.alloc HBi.out.size _)
              have hcy : w7.cell? ⟨wr.heap.size, 0, none⟩ = some (.string y.1) := by rw [hw7, Lib.cell_of_heap (heap_alloc_new wr _)]; rfl
              have hcx : w7.cell? ⟨B4, 0, none⟩ = some (.string x.1) := (HB7.out.cell (p := ⟨B4, 0, none⟩) hB4).trans HBX.out
              have hB7 : wr.heap.size < w7.heap.size := by rw [hw7]; simp
              have hB47 : B4 < w7.heap.size := Nat.lt_of_lt_of_le hB4 HB7.out.size
              go_wp2_with fail
              rw [← hw7]
              clear hw7
              generalize wr.heap.size = B6 at *
              have T2 : Two w5 B4 B6 x.1 y.1 w7 := ⟨hcy, hcx, hB47, hB7, HB7.out⟩
              have T2 := Lib.hid T2
              have Ly := fun W => lower_any y.1 W hys
              have Lx := fun W => lower_any x.1 W hxs
              have Ly := Lib.hid Ly
              have Lx := Lib.hid Lx
              obtain ⟨v, hve⟩ : ∃ v, ((lower y.1).toList == (lower x.1).toList) = v := ⟨_, rfl⟩
              have HE : Hid (v = false → ∀ q ∈ l.take (m + 1), lower q.1 ≠ lower x.1) := by
                refine Lib.hid ?_
                rintro rfl q hq e
                rw [HY.out] at hq
                rcases List.mem_append.1 hq with h | h
                · exact HQ.out q h e
                · simp at h
                  rw [h] at e
                  rw [e] at hve
                  simp at hve
              generalize lower y.1 = ly at Ly hve
              generalize lower x.1 = lx at Lx hve
              clear c0 c1 d0 d1
              go_region_with (first
                | (go_at_call_of 16 y.1; refine (Ly.out _).mono ?_; rintro e1 w8 ⟨rfl, hb8⟩; have T2 := Lib.hid (Two.step (w0 := w5) (B4 := B4) (B6 := B6) (x := x.1) (y := y.1) hb8 ⟨T2.out.cy, T2.out.cx, T2.out.l4, T2.out.l6, T2.out.below.os, T2.out.below.tape, T2.out.below.output, T2.out.below.size, T2.out.below.block⟩); have hcy := T2.out.cy; have hcx := T2.out.cx; clear hb8)
                | (go_at_call_of 16 x.1; refine (Lx.out _).mono ?_; rintro e1 w9 ⟨rfl, hb8⟩; have T2 := Lib.hid (Two.step (w0 := w5) (B4 := B4) (B6 := B6) (x := x.1) (y := y.1) hb8 ⟨T2.out.cy, T2.out.cx, T2.out.l4, T2.out.l6, T2.out.below.os, T2.out.below.tape, T2.out.below.output, T2.out.below.size, T2.out.below.block⟩); have hcy := T2.out.cy; have hcx := T2.out.cx; clear hb8))
              all_goals
                have hG := T2.out.below
                have HG := Lib.hid hG
                clear hG T2 hcy hcx hve
                cases v with
                | true =>
                  go_wp2_with fail
                  go_ret
                  have h2 := chain HB5.out HG.out
                  exact ⟨⟨_, rfl, by intro h; cases h⟩, h2.os, h2.tape, h2.output, h2.size, h2.block⟩
                | false =>
                  have HE2 := Lib.hid (HE.out rfl)
                  go_wp2_with fail
                  exact ⟨⟨m + 1, by omega, by go_num, Lib.hid ⟨HG.out.os, HG.out.tape, HG.out.output, HG.out.size, HG.out.block⟩, HE2⟩, by simp [intOf]; omega⟩
            · obtain rfl : m = k := by omega
              have G : Hid (NamesP (l.take (m + 1))) := Lib.hid (by rw [take_snoc HX.out]; exact HP.out.snoc HT.out HSt.out HQ.out)
              have GB : Hid (Below w.heap.size w wr) := Lib.hid (chain HB5.out HBi.out)
              go_wp2_with fail
              exact ⟨⟨m + 1, by omega, by go_num, GB, G⟩, by simp [intOf]; omega⟩
    · obtain rfl : k = n := by omega
      have G : Hid (NamesP l) := Lib.hid (by have := HP.out; rwa [List.take_of_length_le (by rw [HN.out]; exact Nat.le_refl _)] at this)
      go_wp2_with fail
      go_ret
      exact ⟨⟨_, rfl, fun _ => G.out⟩, HB.out⟩

end Go.Proofs.YtbklpdcipfhdjaaGreatDoor.W
