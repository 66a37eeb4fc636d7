/- spec.Map: names in small letters, by ascending names; SamePairs. -/
import Derived.Test.YtbklpdcipfhdjaaGreatDoorSrt
import Derived.Test.YtbklpdcipfhdjaaGreatDoorRg
import Derived.Test.YtbklpdcipfhdjaaGreatDoorEq
namespace Go.Proofs.YtbklpdcipfhdjaaGreatDoor.Sm
open Go.RowKit Go.Proofs.YtbklpdcipfhdjaaGreatDoor.G Go.Proofs.YtbklpdcipfhdjaaGreatDoor.P Go.Proofs.YtbklpdcipfhdjaaGreatDoor.Q Go.Proofs.YtbklpdcipfhdjaaGreatDoor.W Go.Proofs.YtbklpdcipfhdjaaGreatDoor.X Go.Proofs.YtbklpdcipfhdjaaGreatDoor.Pk Go.Proofs.YtbklpdcipfhdjaaGreatDoor.Ap Go.Proofs.YtbklpdcipfhdjaaGreatDoor.Rg Go.Proofs.YtbklpdcipfhdjaaGreatDoor.Ins Go.Proofs.YtbklpdcipfhdjaaGreatDoor.Srt

/-- Names in small letters. -/
def lowP (l : List Pr) : List Pr := l.map fun p => (lower p.1, p.2)
theorem lowP_snoc (l : List Pr) (p : Pr) : lowP (l ++ [p]) = lowP l ++ [(lower p.1, p.2)] := by simp [lowP]

set_option maxHeartbeats 300000 in
set_option maxRecDepth 100000 in
theorem sorted_none (w : World) :
    Calls Tryz.prog 44 #[.slice none 0 0] w fun e w' => e = .returned (.slice none 0 0) ∧ Below w.heap.size w w' := by
  go_enter Tryz.func44, Tryz.ntmps44
  go_wp2_with fail
  refine wp_loop_rounds 1 ?_
  rw [rounds_succ]
  go_wp2_with fail
  go_ret
  exact ⟨rfl, Below.refl _ _⟩
theorem own_low {w' : World} {B B' : Nat} {v : Value} {n : Nat} {xs : List Value} (h : w'.ownsRow B' 38 2 v n xs) (hB : B ≤ B') : w'.ownsRow B 38 2 v n xs := by
  refine ⟨h.1, ?_⟩
  rcases h.2 with hn | ⟨g, cap, cur, rfl, hbg, rest⟩
  · exact .inl hn
  · exact .inr ⟨g, cap, cur, rfl, Nat.le_trans hB hbg, rest⟩
theorem own_row {w : World} {B g cap n : Nat} {l : List Pr} (h : w.ownsRow B 38 2 (.slice (some ⟨g, 0, none⟩) n cap) n (pc l)) : n ≤ cap ∧ RowP w g 0 l := by
  refine ⟨?_, fun i p hp => ?_⟩
  · rcases h.2 with ⟨h, _⟩ | ⟨g', c, cur, hv, _, _, hc, _⟩
    · cases h
    · cases hv; exact hc
  · obtain ⟨h0, h1⟩ := pc_get l i p hp
    have e0 := h.cells (g := g) rfl _ _ h0
    have e1 := h.cells (g := g) rfl _ _ h1
    rw [Addr.add_lit, Nat.zero_add] at e0 e1
    refine ⟨by rw [Nat.zero_add]; exact e0, ?_⟩
    rw [Nat.zero_add]; exact e1
theorem sorted_own {w : World} {B n m c : Nat} {ao : Option Addr} {l : List Pr} (h : w.ownsRow B 38 2 (.slice ao m c) n (pc l)) (hl : l.length = n) (hn : n ≤ 1099511627776) :
    Calls Tryz.prog 44 #[.slice ao m c] w fun e w' => ∃ v, e = .returned v ∧ w'.ownsRow w.heap.size 38 2 v n (pc (sortP l)) ∧ Below w.heap.size w w' := by
  rcases h.2 with ⟨hv, h0⟩ | ⟨g, cp, cur, hv, _⟩
  · subst h0
    cases hv
    have hl0 : l = [] := List.eq_nil_of_length_eq_zero hl
    refine (sorted_none w).mono ?_
    rintro e w' ⟨rfl, hb⟩
    refine ⟨_, rfl, ⟨?_, .inl ⟨rfl, rfl⟩⟩, hb⟩
    rw [hl0]; simp [sortP, pc]
  · cases hv
    obtain ⟨h1, h2⟩ := own_row h
    subst hl
    exact sorted_row g 0 _ l w hn h1 h2

/-- What the append leaves. -/
def RA (B : Nat) (w0 w5 : World) (v : Value) (L : List Pr) (n : Nat) (v' : Value) (w' : World) : Prop :=
  w'.ownsRow B 38 2 v' n (pc L) ∧ Below B w0 w' ∧ (∃ ao m c, v' = .slice ao m c) ∧ ∀ q, q < w5.heap.size → some q ≠ v.ownBlock → w'.heap[q]? = w5.heap[q]?
theorem runA {B n g : Nat} {w0 w5 W : World} {v : Value} {L : List Pr} {x : Pr} (hn : n ≤ 1099511627776) (hB : B ≤ w5.heap.size) (hown : w5.ownsRow B 38 2 v n (pc L)) (h0 : Below B w0 w5) (hb : Below w5.heap.size w5 W)
    (hg : W.heap[g]? = some (.cells #[.string x.1, .string x.2] 38 (0, 0))) (ty : TypeId) :
    ∃ v' w', (Builtin.append_ #[28, 28] ty #[v, .slice (some ⟨g, 0, none⟩) 1 1]).run Tryz.prog W = .ok v' w' ∧ RA B w0 w5 v (L ++ [x]) (n + 1) v' w' := by
  obtain ⟨i0, hi, hz0, hz1, hz2⟩ := info_parts info38
  have hownW : W.ownsRow B 38 2 v n (pc L) := own_below hown (fun q hq => (hown.lt q hq).2) hb
  have hBW : Below B w0 W := h0.trans ⟨hb.os, hb.tape, hb.output, hb.size, fun k hk => hb.block k (by omega)⟩
  obtain ⟨v', w', h1, h2, h3, _⟩ := run_append_own W B 28 ty 38 i0 _ 2 32 Tryz.underlying28 hi hz0 hz1 hz2 rfl (by decide) v n (pc L) hownW ⟨g, 0, none⟩ 1 1 [.string x.1, .string x.2] rfl (fun j u hj => by
      rw [Addr.add_lit, Lib.cell_of_heap hg]
      simpa using hj) (by intro u hu; simp at hu; rcases hu with rfl | rfl <;> rfl) (by unfold maxLen; omega) (by omega) (Nat.le_trans hB hb.size)
  refine ⟨v', w', h1, by rw [pc_snoc]; exact h2, hBW.grown h3 (Nat.le_trans hB hb.size) (fun k hk => (hownW.lt k hk).1), ?_, fun q hq hne => (h3.block q (Nat.lt_of_lt_of_le hq hb.size) hne).trans (hb.block q hq)⟩
  rcases h2.2 with ⟨h, _⟩ | ⟨g, cp, cur, h, _⟩
  · exact ⟨_, _, _, h⟩
  · exact ⟨_, _, _, h⟩

theorem s2_of {w2 w' : World} {Bx : Nat} {x : Pr} (h : w2.heap[Bx]? = some (.cells #[.string x.1, .string x.2] 38 (0, 0))) (hb : Below w2.heap.size w2 w') :
    w'.cell? ⟨Bx, 0, none⟩ = some (.string x.1) ∧ w'.cell? ⟨Bx, 1, none⟩ = some (.string x.2) ∧ Below w2.heap.size w2 w' := by
  have hlt : Bx < w2.heap.size := (Array.getElem?_eq_some_iff.1 h).1
  refine ⟨(hb.cell (p := ⟨Bx, 0, none⟩) hlt).trans ?_, (hb.cell (p := ⟨Bx, 1, none⟩) hlt).trans ?_, hb⟩ <;> (rw [Lib.cell_of_heap h]; rfl)

theorem s3_of {w w2 w' : World} {Bx : Nat} {x : Pr} (h : w2.heap[Bx]? = some (.cells #[.string x.1, .string x.2] 38 (0, 0))) (h0 : Below w.heap.size w w2) (hb : Below w2.heap.size w2 w') :
    w'.cell? ⟨Bx, 0, none⟩ = some (.string x.1) ∧ w'.cell? ⟨Bx, 1, none⟩ = some (.string x.2) ∧ Below w.heap.size w w' :=
  ⟨(s2_of h hb).1, (s2_of h hb).2.1, chain h0 hb⟩
theorem s4_of {w w2 w' : World} {Bx : Nat} {x : Pr} (h : w2.heap[Bx]? = some (.cells #[.string x.1, .string x.2] 38 (0, 0))) (h0 : Below w.heap.size w w') (hb : w'.heap[Bx]? = w2.heap[Bx]?) :
    w'.cell? ⟨Bx, 0, none⟩ = some (.string x.1) ∧ w'.cell? ⟨Bx, 1, none⟩ = some (.string x.2) ∧ Below w.heap.size w w' := by
  rw [h] at hb
  exact ⟨by rw [Lib.cell_of_heap hb]; rfl, by rw [Lib.cell_of_heap hb]; rfl, h0⟩

set_option maxHeartbeats 300000 in
set_option maxRecDepth 100000 in
theorem map_row (b off cap : Nat) (l : List Pr) (w : World) (hl : l.length ≤ 1099511627776) (hs : ∀ p ∈ l, p.1.size ≤ 1099511627776) (h : RowP w b off l) :
    Calls Tryz.prog 27 #[.slice (some ⟨b, off, none⟩) l.length cap] w fun e w' => ∃ v, e = .returned v ∧ w'.ownsRow w.heap.size 38 2 v l.length (pc (sortP (lowP l))) ∧ Below w.heap.size w w' := by
  have H := Lib.hid h
  have HS := Lib.hid hs
  clear h hs
  generalize hn : l.length = n at *
  have HN := Lib.hid hn
  clear hn
  go_enter Tryz.func27, Tryz.ntmps27
  go_wp2_with fail
  go_loopw [3, 8] (fun v i wr => ∃ k : Nat, k ≤ n ∧ i = .int .i64 k ∧ (∃ ao m c, v = .slice ao m c) ∧ Hid (wr.ownsRow w.heap.size 38 2 v k (pc (lowP (l.take k)))) ∧ Hid (Below w.heap.size w wr)) (fun _ i _ => n - (intOf i).toNat)
  case atStart => exact ⟨0, Nat.zero_le _, rfl, ⟨none, 0, 0, rfl⟩, Lib.hid ⟨by simp [lowP, pc], .inl ⟨rfl, rfl⟩⟩, Lib.hid (Below.refl _ _)⟩
  case round =>
    obtain ⟨k, hk, rfl, ⟨ao, m, c, rfl⟩, HO, HB⟩ := hrel
    by_cases hlt : k < n
    · obtain ⟨x, hx⟩ : ∃ x, l[k]? = some x := ⟨l[k]'(by rw [HN.out]; exact hlt), List.getElem?_eq_getElem _⟩
      obtain ⟨c0, c1⟩ := (H.out.below HB.out) k x hx
      have HT := Lib.hid (take_snoc hx)
      have hxs := HS.out x (List.mem_of_getElem? hx)
      clear hx
      obtain ⟨w5, hw5⟩ : ∃ w5, w5 = wr.alloc (.cells #[.string x.1, .string x.2] 38) := ⟨_, rfl⟩
      have HB5 : Hid (Below w.heap.size w w5) := Lib.hid (by rw [hw5]; exact HB.out.alloc HB.out.size _)
      have HO5 : Hid (w5.ownsRow w.heap.size 38 2 (.slice ao m c) k (pc (lowP (l.take k)))) := Lib.hid (by rw [hw5]; exact HO.out.alloc _)
      have HX5 : Hid (w5.heap[wr.heap.size]? = some (.cells #[.string x.1, .string x.2] 38 (0, 0))) := Lib.hid (by rw [hw5]; exact heap_alloc_new wr _)
      have HL5 : Hid (wr.heap.size < w5.heap.size ∧ some wr.heap.size ≠ (Value.slice ao m c).ownBlock) := Lib.hid ⟨by rw [hw5]; simp, fun h => by have := (HO.out.lt _ h.symm).2; omega⟩
      go_wp2_with fail
      rw [← hw5]
      clear hw5 HO HB
      have HLow : Hid (∀ W, Below w5.heap.size w5 W → Calls Tryz.prog 16 #[.string x.1] W fun e w' => e = .returned (.string (lower x.1)) ∧ Below w5.heap.size w5 w') := Lib.hid fun W hW => (lower_any x.1 W hxs).mono fun e w' h => ⟨h.1, chain hW h.2⟩
      generalize wr.heap.size = B5 at *
      go_region_held_law (fun w' => w'.cell? ⟨B5, 0, none⟩ = some (.string x.1) ∧ w'.cell? ⟨B5, 1, none⟩ = some (.string x.2) ∧ Below w.heap.size w w')
        (first | (have hq := hb7; exact s4_of HX5.out hb7 (hh7 _ HL5.out.1 HL5.out.2)) | (refine s3_of HX5.out HB5.out ?_; (repeat' (first | assumption | exact Below.refl _ _ | apply Below.drew | apply below_alloc'))))
        (first
          | (go_at_call 16; refine (HLow.out _ (by (repeat' (first | assumption | exact Below.refl _ _ | apply Below.drew | apply below_alloc')))).mono ?_; rintro e w6 ⟨rfl, hb6⟩)
          | (have hq := hb6; refine step_append (by rfl) (.tmp 12) (.tmp 19) 28 rfl (.slice ao m c) (.slice (some ⟨w6.heap.size, 0, none⟩) 1 1) (by simp [Act.eval]) (by simp [Act.eval]) (runA (x := (lower x.1, x.2)) (by omega) HB5.out.size HO5.out HB5.out (by (repeat' (first | assumption | exact Below.refl _ _ | apply Below.drew | apply below_alloc'))) (heap_alloc_new w6 _) _) ?_; rintro v1 w7 ⟨ho7, hb7, ⟨ao7, n7, c7, rfl⟩, hh7⟩))
      have G1 : Hid (w7.ownsRow w.heap.size 38 2 (.slice ao7 n7 c7) (k + 1) (pc (lowP (l.take (k + 1))))) := Lib.hid (by rw [HT.out, lowP_snoc]; exact ho7)
      have G2 := Lib.hid hb7
      clear ho7 hb7 hh7
      go_wp2_with fail
      exact ⟨⟨k + 1, by omega, by go_num, ⟨_, _, _, rfl⟩, G1, G2⟩, by simp [intOf]; omega⟩
    · obtain rfl : k = n := by omega
      have G := HO.out
      rw [List.take_of_length_le (by rw [HN.out]; exact Nat.le_refl _)] at G
      have hL : (lowP l).length = k := by rw [← HN.out]; simp [lowP]
      have hsrt := sorted_own G hL (by omega)
      clear HO G
      go_wp2_with fail
      refine hsrt.mono ?_
      rintro e w8 ⟨v, rfl, h1, h2⟩
      have G1 : Hid (w8.ownsRow w.heap.size 38 2 v k (pc (sortP (lowP l)))) := Lib.hid (own_low h1 HB.out.size)
      have G2 := Lib.hid (chain HB.out h2)
      clear h1 h2 hsrt
      go_wp2_with fail
      go_ret
      exact ⟨_, rfl, G1.out, G2.out⟩

set_option maxHeartbeats 300000 in
set_option maxRecDepth 100000 in
theorem map_none (ao : Option Addr) (cap : Nat) (w : World) :
    Calls Tryz.prog 27 #[.slice ao 0 cap] w fun e w' => e = .returned (.slice none 0 0) ∧ Below w.heap.size w w' := by
  have hn := sorted_none w
  go_enter Tryz.func27, Tryz.ntmps27
  go_wp2_with fail
  refine wp_loop_rounds 1 ?_
  rw [rounds_succ]
  go_wp2_with fail
  refine hn.mono ?_
  rintro e w2 ⟨rfl, h2⟩
  go_wp2_with fail
  go_ret
  exact ⟨rfl, h2⟩
end Go.Proofs.YtbklpdcipfhdjaaGreatDoor.Sm
