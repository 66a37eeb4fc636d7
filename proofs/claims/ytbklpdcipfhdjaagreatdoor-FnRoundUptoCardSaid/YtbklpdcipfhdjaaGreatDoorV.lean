/- The walks over lists of written parameters: zzFits4, Well's loop. -/
import Derived.Test.YtbklpdcipfhdjaaGreatDoorU
namespace Go.Proofs.YtbklpdcipfhdjaaGreatDoor.V
open Go.RowKit Go.Proofs.YtbklpdcipfhdjaaGreatDoor.A Go.Proofs.YtbklpdcipfhdjaaGreatDoor.C Go.Proofs.YtbklpdcipfhdjaaGreatDoor.D Go.Proofs.YtbklpdcipfhdjaaGreatDoor.E Go.Proofs.YtbklpdcipfhdjaaGreatDoor.F Go.Proofs.YtbklpdcipfhdjaaGreatDoor.G Go.Proofs.YtbklpdcipfhdjaaGreatDoor.H Go.Proofs.YtbklpdcipfhdjaaGreatDoor.P Go.Proofs.YtbklpdcipfhdjaaGreatDoor.Q Go.Proofs.YtbklpdcipfhdjaaGreatDoor.R Go.Proofs.YtbklpdcipfhdjaaGreatDoor.S Go.Proofs.YtbklpdcipfhdjaaGreatDoor.T

/-- The list lies in the row of block b, from off on. -/
def RowW (w : World) (b off : Nat) (l : List Wn) : Prop := ∀ i x, l[i]? = some x →
  w.cell? ⟨b, off + i * 5, none⟩ = some (.string x.ahead) ∧ w.cell? ⟨b, off + i * 5 + 1, none⟩ = some (.string x.behind) ∧ w.cell? ⟨b, off + i * 5 + 2, none⟩ = some (.string x.name) ∧ w.cell? ⟨b, off + i * 5 + 3, none⟩ = some (.string x.value) ∧ w.cell? ⟨b, off + i * 5 + 4, none⟩ = some (.bool x.quoted)
/-- A slice holds the list. -/
def SliceW (w : World) (v : Value) (l : List Wn) : Prop := ∃ ao cap, v = .slice ao l.length cap ∧ (l ≠ [] → ∃ b off, ao = some ⟨b, off, none⟩ ∧ RowW w b off l)

theorem RowW.below {w w' : World} {b off : Nat} {l : List Wn} (h : RowW w b off l) (hb : Below w.heap.size w w') : RowW w' b off l := by
  intro i x hx
  obtain ⟨h0, h1, h2, h3, h4⟩ := h i x hx
  have hlt := cell_lt h0
  exact ⟨(hb.cell (p := ⟨b, off + i * 5, none⟩) hlt).trans h0, (hb.cell (p := ⟨b, off + i * 5 + 1, none⟩) hlt).trans h1, (hb.cell (p := ⟨b, off + i * 5 + 2, none⟩) hlt).trans h2, (hb.cell (p := ⟨b, off + i * 5 + 3, none⟩) hlt).trans h3, (hb.cell (p := ⟨b, off + i * 5 + 4, none⟩) hlt).trans h4⟩
theorem SliceW.below {w w' : World} {v : Value} {l : List Wn} (h : SliceW w v l) (hb : Below w.heap.size w w') : SliceW w' v l := by
  obtain ⟨ao, cap, rfl, hr⟩ := h
  refine ⟨ao, cap, rfl, fun hl => ?_⟩
  obtain ⟨b, off, e, hw⟩ := hr hl
  exact ⟨b, off, e, hw.below hb⟩

set_option maxHeartbeats 1000000 in
set_option maxRecDepth 100000 in
theorem fits4_none (ao : Option Addr) (cap : Nat) (w : World) :
    Calls Tryz.prog 10 #[.slice ao 0 cap] w fun e w' => (∃ v, e = .returned (.bool v)) ∧ Below w.heap.size w w' := by
  go_enter Tryz.func10, Tryz.ntmps10
  go_wp2_with fail
  refine wp_loop_rounds 1 ?_
  rw [rounds_succ]
  go_wp2_with fail
  go_ret
  exact ⟨⟨_, rfl⟩, Below.refl _ _⟩

set_option maxHeartbeats 1000000 in
set_option maxRecDepth 100000 in
theorem fits4_row (b off cap : Nat) (l : List Wn) (w : World) (hl : l.length ≤ 1099511627776) (h : RowW w b off l) :
    Calls Tryz.prog 10 #[.slice (some ⟨b, off, none⟩) l.length cap] w fun e w' => (∃ v, e = .returned (.bool v)) ∧ Below w.heap.size w w' := by
  have H := Lib.hid h
  clear h
  generalize hn : l.length = n at *
  have HN := Lib.hid hn
  clear hn
  go_enter Tryz.func10, Tryz.ntmps10
  by_cases hbig : (2147483647 : Int) < n
  · have b1 : decide ((2147483647 : Int) < n) = true := decide_eq_true hbig
    go_wp2_with fail
    go_ret
    exact ⟨⟨_, rfl⟩, Below.refl _ _⟩
  · have b1 : decide ((2147483647 : Int) < n) = false := decide_eq_false hbig
    go_wp2_with fail
    go_loopw [10] (fun i wr => ∃ k : Nat, k ≤ n ∧ i = .int .i64 k ∧ Hid (Below w.heap.size w wr)) (fun i _ => n - (intOf i).toNat)
    case atStart => exact ⟨0, Nat.zero_le _, rfl, Lib.hid (Below.refl _ _)⟩
    case round =>
      obtain ⟨k, hk, rfl, HB⟩ := hrel
      by_cases hlt : k < n
      · obtain ⟨x, hx⟩ : ∃ x, l[k]? = some x := ⟨l[k]'(by rw [HN.out]; exact hlt), List.getElem?_eq_getElem _⟩
        obtain ⟨c0, c1, c2, c3, c4⟩ := (H.out.below HB.out) k x hx
        clear hx
        obtain ⟨w5, hw5⟩ : ∃ w5, w5 = wr.alloc (.cells x.cells 24) := ⟨_, rfl⟩
        have HB5 : Hid (Below w.heap.size w w5) := Lib.hid (by rw [hw5]; exact HB.out.alloc HB.out.size _)
        unfold Wn.cells at hw5
        have hf := fits1_any x w5
        unfold Wn.cells at hf
        generalize decide x.fits = v at hf
        go_wp2_with fail
        rw [← hw5]
        refine hf.mono ?_
        clear hf hw5
        rintro e w6 ⟨rfl, g6⟩
        have G := Lib.hid (chain HB5.out g6)
        clear g6
        cases v with
        | true =>
          go_wp2_with fail
          exact ⟨⟨k + 1, by omega, by go_num, G⟩, by simp [intOf]; omega⟩
        | false =>
          go_wp2_with fail
          go_ret
          exact ⟨⟨_, rfl⟩, G.out⟩
      · obtain rfl : k = n := by omega
        go_wp2_with fail
        go_ret
        exact ⟨⟨_, rfl⟩, HB.out⟩

end Go.Proofs.YtbklpdcipfhdjaaGreatDoor.V
