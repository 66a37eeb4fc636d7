/- How the arguments of the laws read: a written parameter, a list of them; what their bulk bounds. -/
import Derived.Test.YtbklpdcipfhdjaaGreatDoorRg
import Derived.Test.YtbklpdcipfhdjaaGreatDoorRows
import Derived.Deep.Slices
import Derived.Deep.Fields
import Derived.ChangeSame
namespace Go.Proofs.YtbklpdcipfhdjaaGreatDoor.Opn
open Go.ChangeShapes Go.WideShapes Go.Deep Go.RowKit Go.Proofs.YtbklpdcipfhdjaaGreatDoor.H Go.Proofs.YtbklpdcipfhdjaaGreatDoor.P Go.Proofs.YtbklpdcipfhdjaaGreatDoor.V Go.Proofs.YtbklpdcipfhdjaaGreatDoor.T Go.Proofs.YtbklpdcipfhdjaaGreatDoor.X Go.Proofs.YtbklpdcipfhdjaaGreatDoor.Z Go.Proofs.YtbklpdcipfhdjaaGreatDoor.Ap Go.Proofs.YtbklpdcipfhdjaaGreatDoor.Rg

instance : Inhabited Wn := ⟨⟨⟨#[]⟩, ⟨#[]⟩, ⟨#[]⟩, ⟨#[]⟩, false⟩⟩

section
variable {H : Type} {enc : TypeId × Value → H} {w : World} {base : Nat} {spare : Nat → Bool} {held : Bool}

/-- What a written parameter reads as. -/
def wnD (y : Wn) : DataW H := .agg [.lit (.string (bl y.ahead)), .lit (.string (bl y.behind)), .lit (.string (bl y.name)), .lit (.string (bl y.value)), .lit (.bool y.quoted)]

theorem cells24 : Tryz.prog.cellsOf 24 = 5 := by kernel_rfl
theorem cells9 : Tryz.prog.cellsOf 9 = 1 := by kernel_rfl
theorem cells4 : Tryz.prog.cellsOf 4 = 1 := by kernel_rfl

set_option maxRecDepth 100000 in
theorem open_wn {fuel : Nat} {cs : List Value} {x : DataW H × List MemPlace} (h : DataW.trod enc Tryz.prog w base spare held fuel 24 cs = some x) :
    ∃ y : Wn, cs = y.cells.toList ∧ x = (wnD y, []) := by
  obtain ⟨xs, n, _, hx, hl, hlen, hg⟩ := DataW.trod_struct Tryz.underlying24 h
  rw [cells24] at hl
  match cs, hl with
  | [c0, c1, c2, c3, c4], _ =>
    match xs, hlen with
    | [y0, y1, y2, y3, y4], _ =>
      have g0 : DataW.trod enc Tryz.prog w base spare held n 9 (([c0, c1, c2, c3, c4].drop 0).take (Tryz.prog.cellsOf 9)) = some y0 := hg 0 _ rfl
      rw [cells9] at g0
      have g1 : DataW.trod enc Tryz.prog w base spare held n 9 (([c0, c1, c2, c3, c4].drop 1).take (Tryz.prog.cellsOf 9)) = some y1 := hg 1 _ rfl
      rw [cells9] at g1
      have g2 : DataW.trod enc Tryz.prog w base spare held n 9 (([c0, c1, c2, c3, c4].drop 2).take (Tryz.prog.cellsOf 9)) = some y2 := hg 2 _ rfl
      rw [cells9] at g2
      have g3 : DataW.trod enc Tryz.prog w base spare held n 9 (([c0, c1, c2, c3, c4].drop 3).take (Tryz.prog.cellsOf 9)) = some y3 := hg 3 _ rfl
      rw [cells9] at g3
      have g4 : DataW.trod enc Tryz.prog w base spare held n 4 (([c0, c1, c2, c3, c4].drop 4).take (Tryz.prog.cellsOf 4)) = some y4 := hg 4 _ rfl
      rw [cells4] at g4
      obtain ⟨s0, e0, d0, _⟩ := DataW.trod_string Tryz.underlying9 g0
      obtain ⟨s1, e1, d1, _⟩ := DataW.trod_string Tryz.underlying9 g1
      obtain ⟨s2, e2, d2, _⟩ := DataW.trod_string Tryz.underlying9 g2
      obtain ⟨s3, e3, d3, _⟩ := DataW.trod_string Tryz.underlying9 g3
      obtain ⟨b4, e4, d4⟩ := DataW.trod_bool Tryz.underlying4 g4
      simp at e0 e1 e2 e3 e4
      subst e0 e1 e2 e3 e4 d0 d1 d2 d3 d4
      exact ⟨⟨s0, s1, s2, s3, b4⟩, rfl, by simpa [wnD] using hx⟩

theorem bulk_one (d : DataW H) : 1 ≤ Rows.uptoBulk d := by
  cases d with
  | lit l => cases l <;> simp [Rows.uptoBulk]
  | nil => simp [Rows.uptoBulk]
  | ptr d => simp [Rows.uptoBulk]
  | slice elems spare => simp [Rows.uptoBulk]
  | agg parts => simp [Rows.uptoBulk]
  | iface t d => simp [Rows.uptoBulk]
  | map entries => simp [Rows.uptoBulk]
  | held h => simp [Rows.uptoBulk]
theorem bulk_str (s : ByteArray) : Rows.uptoBulk (DataW.lit (H := H) (.string (bl s))) = s.size + 1 := by
  simp [Rows.uptoBulk]
theorem bulk_wn (y : Wn) : y.ahead.size + y.behind.size + y.name.size + y.value.size + 5 ≤ Rows.uptoBulk (wnD (H := H) y) := by
  unfold wnD
  simp only [Rows.uptoBulk, Rows.uptoBulkAll]
  simp
  omega
theorem bulk_list (l : List Wn) : l.length ≤ Rows.uptoBulkAll (l.map (wnD (H := H))) ∧ (∀ y ∈ l, y.ahead.size + y.behind.size + y.name.size + y.value.size ≤ Rows.uptoBulkAll (l.map (wnD (H := H)))) ∧ (texts l).length ≤ 2 * Rows.uptoBulkAll (l.map (wnD (H := H))) := by
  induction l with
  | nil => simp [texts, Rows.uptoBulkAll]
  | cons y l ih =>
    obtain ⟨h1, h2, h3⟩ := ih
    have hy := bulk_wn (H := H) y
    rw [texts_cons]
    simp only [List.map_cons, Rows.uptoBulkAll, List.length_cons, List.length_append]
    refine ⟨by omega, ?_, ?_⟩
    · intro z hz
      rcases List.mem_cons.1 hz with rfl | hz
      · omega
      · have := h2 z hz; omega
    · have ht : (Wn.text y).length ≤ y.ahead.size + y.behind.size + y.name.size + 2 * y.value.size + 4 := by
        have e1 := sz y.ahead
        have e2 := sz y.behind
        have e3 := sz y.name
        have e4 := sz y.value
        have hq := qb_le (bl y.value)
        unfold Wn.text Wn.val
        split
        · unfold quoteL
          simp only [List.length_append, List.length_cons, List.length_nil]
          omega
        · simp only [List.length_append, List.length_cons]
          omega
      omega

/-- A slice of written parameters, opened. -/
theorem open_list {ao : Option Addr} {n cap : Nat} {d : DataW H} {p : List MemPlace} (h : DataW.Trod enc Tryz.prog w base spare held 22 (.slice ao n cap) d p) (hb : Rows.uptoBulk d ≤ 1048576) :
    ∃ l : List Wn, l.length = n ∧ Ls ao cap l w := by
  obtain ⟨fuel, hf⟩ := h
  have hf' : DataW.trod enc Tryz.prog w base spare held fuel 22 [.slice ao n cap] = some (d, p) := hf
  rcases open_slice Tryz.underlying22 hf' with ⟨h1, h2⟩ | ⟨a, len, cp, m, k, D, Pl, hcs, _, hl, hm, hmm, hx, hi⟩
  · simp only [List.cons.injEq, Value.slice.injEq, and_true] at h1
    obtain ⟨rfl, rfl, rfl⟩ := h1
    exact ⟨[], rfl, ⟨by decide, by simp, by decide, .inl rfl, fun _ => rfl⟩⟩
  · simp only [List.cons.injEq, Value.slice.injEq, and_true] at hcs
    obtain ⟨rfl, rfl, rfl⟩ := hcs
    have hnm : n ≤ m := by rw [hmm]; split <;> omega
    have each : ∀ i, i < n → ∃ y : Wn, (∀ j v, y.cells.toList[j]? = some v → w.cell? (a.add (i * 5 + j)) = some v) ∧ D i = wnD y := by
      intro i hin
      obtain ⟨cs', h1, h2⟩ := hi i (by omega)
      rw [cells24] at h1
      obtain ⟨y, rfl, hy⟩ := open_wn h2
      obtain ⟨_, hlen, hcell⟩ := World.cells?_some h1
      refine ⟨y, fun j v hv => ?_, congrArg Prod.fst hy⟩
      have hj : j < 5 := (List.getElem?_eq_some_iff.1 hv).1
      have := hcell j hj
      rw [add_add] at this
      rw [this, hv]
    obtain ⟨I, hI⟩ := choose_lt each
    have hdl : d = .slice (((List.range n).map I).map (wnD (H := H))) ((List.range (m - n)).map fun j => D (n + j)) := by
      have := congrArg Prod.fst hx
      simp only at this
      rw [this, List.map_map]
      congr 1
      refine List.map_congr_left fun i hi' => ?_
      exact (hI i (List.mem_range.1 hi')).2
    obtain ⟨b1, b2, b3⟩ := bulk_list (H := H) ((List.range n).map I)
    have hbb : Rows.uptoBulkAll (((List.range n).map I).map (wnD (H := H))) ≤ 1048576 := by
      rw [hdl] at hb
      simp only [Rows.uptoBulk] at hb
      omega
    refine ⟨(List.range n).map I, by simp, ⟨by omega, fun x hx => ?_, by omega, ?_, fun h => by cases h⟩⟩
    · have := b2 x hx
      exact ⟨by omega, by omega, by omega, by omega⟩
    · by_cases h0 : n = 0
      · left; simp [h0]
      · right
        have hsp : a.spot = none := by
          have := (hI 0 (by omega)).1 0 _ rfl
          simp only [Nat.zero_mul, Nat.add_zero] at this
          exact World.cell?_spot this
        obtain ⟨ab, aoff, asp⟩ := a
        simp only at hsp
        subst hsp
        refine ⟨ab, aoff, rfl, fun i x hx => ?_⟩
        obtain ⟨hin, rfl⟩ : ∃ h : i < n, x = I i := by
          have h1 : i < n := by have := (List.getElem?_eq_some_iff.1 hx).1; simpa using this
          refine ⟨h1, ?_⟩
          simp [h1] at hx
          exact hx.symm
        have hc := (hI i hin).1
        have ha : ∀ k, (⟨ab, aoff, none⟩ : Addr).add k = ⟨ab, aoff + k, none⟩ := fun k => by rw [Addr.add_lit]
        refine ⟨?_, ?_, ?_, ?_, ?_⟩
        · have := hc 0 _ rfl; rw [ha] at this; exact this
        · have := hc 1 _ rfl; rw [ha] at this; rw [Nat.add_assoc]; exact this
        · have := hc 2 _ rfl; rw [ha] at this; rw [Nat.add_assoc]; exact this
        · have := hc 3 _ rfl; rw [ha] at this; rw [Nat.add_assoc]; exact this
        · have := hc 4 _ rfl; rw [ha] at this; rw [Nat.add_assoc]; exact this
end

end Go.Proofs.YtbklpdcipfhdjaaGreatDoor.Opn
