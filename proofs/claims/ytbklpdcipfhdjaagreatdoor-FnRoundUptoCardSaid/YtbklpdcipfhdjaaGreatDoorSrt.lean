/- spec.sorted: insertion by ascending names. -/
import Derived.Test.YtbklpdcipfhdjaaGreatDoorIns
import Derived.Test.YtbklpdcipfhdjaaGreatDoorPk
import Derived.Deep.QuietTactic
import Derived.BigQuiet
namespace Go.Proofs.YtbklpdcipfhdjaaGreatDoor.Srt
open Go.RowKit Go.Proofs.YtbklpdcipfhdjaaGreatDoor.P Go.Proofs.YtbklpdcipfhdjaaGreatDoor.Q Go.Proofs.YtbklpdcipfhdjaaGreatDoor.W Go.Proofs.YtbklpdcipfhdjaaGreatDoor.X Go.Proofs.YtbklpdcipfhdjaaGreatDoor.Pk Go.Proofs.YtbklpdcipfhdjaaGreatDoor.Ins

/-- How many names ahead are less. -/
def pos (x : Pr) : List Pr → Nat
  | [] => 0
  | y :: l => if lessP y x then pos x l + 1 else 0
def insP (l : List Pr) (x : Pr) : List Pr := l.take (pos x l) ++ x :: l.drop (pos x l)
def sortP (l : List Pr) : List Pr := l.foldl insP []
theorem pos_le (x : Pr) : ∀ l, pos x l ≤ l.length
  | [] => Nat.le_refl _
  | y :: l => by
    unfold pos
    have := pos_le x l
    split <;> simp <;> omega
theorem pos_lt (x : Pr) : ∀ (l : List Pr) (j : Nat) (y : Pr), j < pos x l → l[j]? = some y → lessP y x = true
  | [], j, y, h, _ => by simp [pos] at h
  | z :: l, j, y, h, hy => by
    unfold pos at h
    split at h
    · rename_i hz
      cases j with
      | zero => simp at hy; subst hy; exact hz
      | succ j => exact pos_lt x l j y (by omega) (by simpa using hy)
    · omega
theorem pos_at (x : Pr) : ∀ (l : List Pr) (y : Pr), l[pos x l]? = some y → lessP y x = false
  | [], y, h => by simp [pos] at h
  | z :: l, y, h => by
    unfold pos at h
    split at h
    · exact pos_at x l y (by simpa using h)
    · rename_i hz
      simp at h
      subst h
      simpa using hz
theorem insP_len (l : List Pr) (x : Pr) : (insP l x).length = l.length + 1 := by
  have := pos_le x l
  unfold insP
  simp
  omega
theorem sort_len (l : List Pr) : (sortP l).length = l.length := by
  suffices h : ∀ (l acc : List Pr), (l.foldl insP acc).length = acc.length + l.length by
    have := h l []
    simpa [sortP] using this
  intro l
  induction l with
  | nil => simp
  | cons x l ih => intro acc; rw [List.foldl_cons, ih, insP_len]; simp; omega
theorem sort_snoc (l : List Pr) (x : Pr) : sortP (l ++ [x]) = insP (sortP l) x := by simp [sortP, List.foldl_append]

theorem below_drewN (B : Nat) (w : World) (n : Nat) : Below B w (w.drewN n) := ⟨rfl, rfl, rfl, Nat.le_refl _, fun _ _ => rfl⟩
theorem own_below {w w' : World} {B S : Nat} {v : Value} {n : Nat} {xs : List Value} (h : w.ownsRow B 38 2 v n xs) (hv : ∀ q, v.ownBlock = some q → q < S) (hb : Below S w w') : w'.ownsRow B 38 2 v n xs := by
  refine ⟨h.1, ?_⟩
  rcases h.2 with hn | ⟨g, cap, cur, rfl, hbg, hgg, rest⟩
  · exact .inl hn
  · exact .inr ⟨g, cap, cur, rfl, hbg, (hb.block g (hv g rfl)).trans hgg, rest⟩

set_option maxHeartbeats 1000000 in
set_option maxRecDepth 100000 in
theorem sorted_row (b off cap : Nat) (l : List Pr) (w : World) (hl : l.length ≤ 1099511627776) (hcap : l.length ≤ cap) (h : RowP w b off l) :
    Calls Tryz.prog 44 #[.slice (some ⟨b, off, none⟩) l.length cap] w fun e w' => ∃ v, e = .returned v ∧ w'.ownsRow w.heap.size 38 2 v l.length (pc (sortP l)) ∧ Below w.heap.size w w' := by
  have H := Lib.hid h
  clear h
  generalize hn : l.length = n at *
  have HN := Lib.hid hn
  clear hn
  go_enter Tryz.func44, Tryz.ntmps44
  go_wp2_with fail
  go_loopw [3, 9] (fun v i wr => ∃ k : Nat, k ≤ n ∧ i = .int .i64 k ∧ (∃ ao m c, v = .slice ao m c) ∧ Hid (wr.ownsRow w.heap.size 38 2 v k (pc (sortP (l.take k)))) ∧ Hid (Below w.heap.size w wr)) (fun _ i _ => n - (intOf i).toNat)
  case atStart => exact ⟨0, Nat.zero_le _, rfl, ⟨none, 0, 0, rfl⟩, Lib.hid ⟨by simp [sortP, pc], .inl ⟨rfl, rfl⟩⟩, Lib.hid (Below.refl _ _)⟩
  case round =>
    obtain ⟨k, hk, rfl, ⟨ao, m, c, rfl⟩, HO, HB⟩ := hrel
    by_cases hlt : k < n
    · obtain ⟨x, hx⟩ : ∃ x, l[k]? = some x := ⟨l[k]'(by rw [HN.out]; exact hlt), List.getElem?_eq_getElem _⟩
      obtain ⟨c0, c1⟩ := (H.out.below HB.out) k x hx
      have HT := Lib.hid (take_snoc hx)
      clear hx
      have hB : w.heap.size ≤ wr.heap.size := HB.out.size
      have hmk : m = k := by
        rcases HO.out.2 with ⟨h, h0⟩ | ⟨g, cp, cur, h, _⟩
        · cases h; exact h0.symm
        · cases h; rfl
      subst hmk
      have hAl : (sortP (l.take m)).length = m := by rw [sort_len, List.length_take, HN.out, Nat.min_eq_left hk]
      obtain ⟨A, hA⟩ : ∃ A, A = sortP (l.take m) := ⟨_, rfl⟩
      have HA : Hid (insP A x = sortP (l.take (m + 1))) := Lib.hid (by rw [HT.out, sort_snoc, ← hA])
      rw [← hA] at HO hAl
      clear hA HT
      obtain ⟨w5, hw5⟩ : ∃ w5, w5 = wr.alloc (.cells #[.string x.1, .string x.2] 38) := ⟨_, rfl⟩
      have HB5 : Hid (Below w.heap.size w w5) := Lib.hid (by rw [hw5]; exact HB.out.alloc HB.out.size _)
      have HO5 : Hid (w5.ownsRow w.heap.size 38 2 (.slice ao m c) m (pc A)) := Lib.hid (by rw [hw5]; exact HO.out.alloc _)
      have HX5 : Hid (w5.heap[wr.heap.size]? = some (.cells #[.string x.1, .string x.2] 38 (0, 0))) := Lib.hid (by rw [hw5]; exact heap_alloc_new wr _)
      have HL5 : Hid (∀ q, (Value.slice ao m c).ownBlock = some q → q < wr.heap.size) := Lib.hid (fun q hq => (HO.out.lt q hq).2)
      have hS5 : w5.heap.size = wr.heap.size + 1 := by rw [hw5]; simp
      have hpl : pos x A ≤ m := by have := pos_le x A; omega
      go_wp2_with fail
      rw [← hw5]
      clear hw5 HO HB
      generalize wr.heap.size = B5 at *
      have HS5 := Lib.hid hS5
      clear hS5
      go_loopw [6] (fun j wr => ∃ t : Nat, t ≤ pos x A ∧ j = .int .i64 t ∧ Hid (Below w5.heap.size w5 wr)) (fun j _ => m - (intOf j).toNat)
      case atStart => exact ⟨0, Nat.zero_le _, rfl, Lib.hid (Below.refl _ _)⟩
      case round =>
        obtain ⟨t, ht, rfl, HBi⟩ := hrel
        have hcx : wr.cell? ⟨B5, 0, none⟩ = some (.string x.1) := (HBi.out.cell (p := ⟨B5, 0, none⟩) (by rw [HS5.out]; exact Nat.lt_succ_self _)).trans (by rw [Lib.cell_of_heap HX5.out]; rfl)
        have hcx2 : wr.cell? ⟨B5, 0 + 1, none⟩ = some (.string x.2) := (HBi.out.cell (p := ⟨B5, 0 + 1, none⟩) (by rw [HS5.out]; exact Nat.lt_succ_self _)).trans (by rw [Lib.cell_of_heap HX5.out]; rfl)
        by_cases htm : t < m
        · obtain ⟨y, hy⟩ : ∃ y, A[t]? = some y := ⟨A[t]'(by omega), List.getElem?_eq_getElem _⟩
          obtain ⟨g, rfl⟩ : ∃ g, ao = some ⟨g, 0, none⟩ := by
            rcases HO5.out.2 with ⟨_, h0⟩ | ⟨g, cp, cur, h, _⟩
            · omega
            · cases h; exact ⟨g, rfl⟩
          have hcy : wr.cell? ⟨g, t * 2, none⟩ = some (.string y.1) := by
            have h1 := HO5.out.cells (g := g) rfl (t * 2) _ (pc_get A t y hy).1
            rw [Addr.add_lit, Nat.zero_add] at h1
            refine (HBi.out.cell (p := ⟨g, t * 2, none⟩) ?_).trans h1
            have := HL5.out g rfl
            have e := HS5.out
            show g < w5.heap.size
            omega
          cases hb : Op.bytesLess y.1.toList x.1.toList with
          | true =>
            have htp : t < pos x A := by
              apply Classical.byContradiction
              intro hc
              have e : t = pos x A := by omega
              have := pos_at x A y (by rw [← e]; exact hy)
              unfold lessP at this
              rw [hb] at this
              cases this
            go_wp2_with fail
            go_quiet (fail)
            go_wp2_with fail
            exact ⟨⟨t + 1, by omega, by go_num, Lib.hid ⟨HBi.out.os, HBi.out.tape, HBi.out.output, HBi.out.size, HBi.out.block⟩⟩, by simp [intOf]; omega⟩
          | false =>
            have htp : t = pos x A := by
              apply Classical.byContradiction
              intro hc
              have := pos_lt x A t y (by omega) hy
              unfold lessP at this
              rw [hb] at this
              cases this
            subst htp
            go_wp2_with fail
            go_quiet (fail)
            obtain ⟨w7, hw7⟩ : ∃ w7, w7 = (wr.drewN nq).alloc (.cells #[.string x.1, .string x.2] 38) := ⟨_, rfl⟩
            have HO7 : Hid (w7.ownsRow w.heap.size 38 2 (.slice (some ⟨g, 0, none⟩) m c) m (pc A)) := Lib.hid (by rw [hw7]; exact own_below HO5.out (fun q hq => by have := HL5.out q hq; have e := HS5.out; omega) (chain HBi.out (Below.alloc (below_drewN _ _ _) (Nat.le_refl _) _)))
            have HX7 : Hid (w7.heap[(wr.drewN nq).heap.size]? = some (.cells #[.string x.1, .string x.2] 38 (0, 0))) := Lib.hid (by rw [hw7]; exact heap_alloc_new _ _)
            have HB7 : Hid (Below w.heap.size w w7) := Lib.hid (by rw [hw7]; exact chain HB5.out (chain HBi.out (Below.alloc (below_drewN _ _ _) (Nat.le_refl _) _)))
            have hne7 : (Value.slice (some ⟨g, 0, none⟩) m c).ownBlock ≠ some ((wr.drewN nq).heap.size) := fun h => by
              have h1 := HL5.out _ h
              have h2 := HBi.out.size
              have e := HS5.out
              have e2 : (wr.drewN nq).heap.size = wr.heap.size := rfl
              omega
            have hs7 : w.heap.size ≤ w7.heap.size := HB7.out.size
            have hins := ins_any w.heap.size m (pos x A) (wr.drewN nq).heap.size 1 (.slice (some ⟨g, 0, none⟩) m c) A x w7 hpl hAl (by omega) hs7 HO7.out HX7.out hne7
            go_wp2_with fail
            rw [← hw7]
            clear hw7
            refine hins.mono ?_
            rintro e w8 ⟨v', rfl, h1, h2⟩
            have G1 : Hid (w8.ownsRow w.heap.size 38 2 v' (m + 1) (pc (sortP (l.take (m + 1))))) := Lib.hid (by rw [← HA.out]; exact h1)
            have G2 : Hid (Below w.heap.size w w8) := Lib.hid (HB7.out.trans h2)
            have hsh : ∃ ao m c, v' = .slice ao m c := by
              rcases h1.2 with ⟨h, _⟩ | ⟨g, cp, cur, h, _⟩
              · exact ⟨_, _, _, h⟩
              · exact ⟨_, _, _, h⟩
            clear h1 h2 hins
            obtain ⟨ao2, m2, cc2, rfl⟩ := hsh
            go_wp2_with fail
            exact ⟨⟨m + 1, by omega, by go_num, ⟨_, _, _, rfl⟩, G1, G2⟩, by simp [intOf]; omega⟩
        · have htp : t = pos x A := by omega
          subst htp
          go_wp2_with fail
          go_quiet (fail)
          obtain ⟨w7, hw7⟩ : ∃ w7, w7 = (wr.drewN nq).alloc (.cells #[.string x.1, .string x.2] 38) := ⟨_, rfl⟩
          have HO7 : Hid (w7.ownsRow w.heap.size 38 2 (.slice ao m c) m (pc A)) := Lib.hid (by rw [hw7]; exact own_below HO5.out (fun q hq => by have := HL5.out q hq; have e := HS5.out; omega) (chain HBi.out (Below.alloc (below_drewN _ _ _) (Nat.le_refl _) _)))
          have HX7 : Hid (w7.heap[(wr.drewN nq).heap.size]? = some (.cells #[.string x.1, .string x.2] 38 (0, 0))) := Lib.hid (by rw [hw7]; exact heap_alloc_new _ _)
          have HB7 : Hid (Below w.heap.size w w7) := Lib.hid (by rw [hw7]; exact chain HB5.out (chain HBi.out (Below.alloc (below_drewN _ _ _) (Nat.le_refl _) _)))
          have hne7 : (Value.slice ao m c).ownBlock ≠ some ((wr.drewN nq).heap.size) := fun h => by
            have h1 := HL5.out _ h
            have h2 := HBi.out.size
            have e := HS5.out
            have e2 : (wr.drewN nq).heap.size = wr.heap.size := rfl
            omega
          have hs7 : w.heap.size ≤ w7.heap.size := HB7.out.size
          have hins := ins_any w.heap.size m (pos x A) (wr.drewN nq).heap.size 1 (.slice ao m c) A x w7 hpl hAl (by omega) hs7 HO7.out HX7.out hne7
          go_wp2_with fail
          rw [← hw7]
          clear hw7
          refine hins.mono ?_
          rintro e w8 ⟨v', rfl, h1, h2⟩
          have G1 : Hid (w8.ownsRow w.heap.size 38 2 v' (m + 1) (pc (sortP (l.take (m + 1))))) := Lib.hid (by rw [← HA.out]; exact h1)
          have G2 : Hid (Below w.heap.size w w8) := Lib.hid (HB7.out.trans h2)
          have hsh : ∃ ao m c, v' = .slice ao m c := by
            rcases h1.2 with ⟨h, _⟩ | ⟨g, cp, cur, h, _⟩
            · exact ⟨_, _, _, h⟩
            · exact ⟨_, _, _, h⟩
          clear h1 h2 hins
          obtain ⟨ao2, m2, cc2, rfl⟩ := hsh
          go_wp2_with fail
          exact ⟨⟨m + 1, by omega, by go_num, ⟨_, _, _, rfl⟩, G1, G2⟩, by simp [intOf]; omega⟩
    · obtain rfl : k = n := by omega
      have G : Hid (wr.ownsRow w.heap.size 38 2 (.slice ao m c) k (pc (sortP l))) := Lib.hid (by have := HO.out; rwa [List.take_of_length_le (by rw [HN.out]; exact Nat.le_refl _)] at this)
      go_wp2_with fail
      go_ret
      exact ⟨_, rfl, G.out, HB.out⟩
end Go.Proofs.YtbklpdcipfhdjaaGreatDoor.Srt
