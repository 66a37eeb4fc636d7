/- How a list of parameters among the arguments reads. -/
import Derived.Test.YtbklpdcipfhdjaaGreatDoorOpn
import Derived.Test.YtbklpdcipfhdjaaGreatDoorRound
namespace Go.Proofs.YtbklpdcipfhdjaaGreatDoor.Or
open Go.ChangeShapes Go.WideShapes Go.Deep Go.RowKit Go.Proofs.YtbklpdcipfhdjaaGreatDoor.P Go.Proofs.YtbklpdcipfhdjaaGreatDoor.W Go.Proofs.YtbklpdcipfhdjaaGreatDoor.Opn Go.Proofs.YtbklpdcipfhdjaaGreatDoor.Fp Go.Proofs.YtbklpdcipfhdjaaGreatDoor.Round

section
variable {H : Type} {enc : TypeId × Value → H} {w : World} {base : Nat} {spare : Nat → Bool} {held : Bool}

/-- What a parameter reads as. -/
def prD (p : Pr) : DataW H := .agg [.lit (.string (bl p.1)), .lit (.string (bl p.2))]
theorem cells38 : Tryz.prog.cellsOf 38 = 2 := by kernel_rfl

set_option maxRecDepth 100000 in
theorem open_pr {fuel : Nat} {cs : List Value} {x : DataW H × List MemPlace} (h : DataW.trod enc Tryz.prog w base spare held fuel 38 cs = some x) :
    ∃ p : Pr, cs = [.string p.1, .string p.2] ∧ x = (prD p, []) := by
  obtain ⟨xs, n, _, hx, hl, hlen, hg⟩ := DataW.trod_struct Tryz.underlying38 h
  rw [cells38] at hl
  match cs, hl with
  | [c0, c1], _ =>
    match xs, hlen with
    | [y0, y1], _ =>
      have g0 : DataW.trod enc Tryz.prog w base spare held n 9 (([c0, c1].drop 0).take (Tryz.prog.cellsOf 9)) = some y0 := hg 0 _ rfl
      rw [cells9] at g0
      have g1 : DataW.trod enc Tryz.prog w base spare held n 9 (([c0, c1].drop 1).take (Tryz.prog.cellsOf 9)) = some y1 := hg 1 _ rfl
      rw [cells9] at g1
      obtain ⟨s0, e0, d0, _⟩ := DataW.trod_string Tryz.underlying9 g0
      obtain ⟨s1, e1, d1, _⟩ := DataW.trod_string Tryz.underlying9 g1
      simp at e0 e1
      subst e0 e1 d0 d1
      exact ⟨(s0, s1), rfl, by simpa [prD] using hx⟩
theorem bulk_pr (p : Pr) : p.1.size + p.2.size + 2 ≤ Rows.uptoBulk (prD (H := H) p) := by
  unfold prD
  simp only [Rows.uptoBulk, Rows.uptoBulkAll]
  simp
  omega
theorem bulk_prs (l : List Pr) : tot l + l.length ≤ Rows.uptoBulkAll (l.map (prD (H := H))) := by
  induction l with
  | nil => simp [tot, Rows.uptoBulkAll]
  | cons p l ih =>
    have hp := bulk_pr (H := H) p
    simp only [List.map_cons, Rows.uptoBulkAll, List.length_cons, tot]
    omega

/-- A slice of parameters, opened. -/
theorem open_pairs {ao : Option Addr} {n cap : Nat} {d : DataW H} {p : List MemPlace} (h : DataW.Trod enc Tryz.prog w base spare held 28 (.slice ao n cap) d p) (hb : Rows.uptoBulk d ≤ 1048576) :
    ∃ l : List Pr, l.length = n ∧ Lp ao cap l w ∧ tot l ≤ 1048576 ∧ l.length ≤ 524288 := by
  obtain ⟨fuel, hf⟩ := h
  have hf' : DataW.trod enc Tryz.prog w base spare held fuel 28 [.slice ao n cap] = some (d, p) := hf
  rcases open_slice Tryz.underlying28 hf' with ⟨h1, h2⟩ | ⟨a, len, cp, m, k, D, Pl, hcs, _, hl, hm, hmm, hx, hi⟩
  · simp only [List.cons.injEq, Value.slice.injEq, and_true] at h1
    obtain ⟨rfl, rfl, rfl⟩ := h1
    exact ⟨[], rfl, ⟨.inl rfl, Nat.le_refl _⟩, by simp [tot], by simp⟩
  · simp only [List.cons.injEq, Value.slice.injEq, and_true] at hcs
    obtain ⟨rfl, rfl, rfl⟩ := hcs
    have hnm : n ≤ m := by rw [hmm]; split <;> omega
    have each : ∀ i, i < n → ∃ y : Pr, (∀ j v, [Value.string y.1, .string y.2][j]? = some v → w.cell? (a.add (i * 2 + j)) = some v) ∧ D i = prD y := by
      intro i hin
      obtain ⟨cs', h1, h2⟩ := hi i (by omega)
      rw [cells38] at h1
      obtain ⟨y, rfl, hy⟩ := open_pr h2
      obtain ⟨_, hlen, hcell⟩ := World.cells?_some h1
      refine ⟨y, fun j v hv => ?_, congrArg Prod.fst hy⟩
      have hj : j < 2 := (List.getElem?_eq_some_iff.1 hv).1
      have := hcell j hj
      rw [add_add] at this
      rw [this, hv]
    obtain ⟨I, hI⟩ := choose_lt each
    have hdl : d = .slice (((List.range n).map I).map (prD (H := H))) ((List.range (m - n)).map fun j => D (n + j)) := by
      have := congrArg Prod.fst hx
      simp only at this
      rw [this, List.map_map]
      congr 1
      refine List.map_congr_left fun i hi' => ?_
      exact (hI i (List.mem_range.1 hi')).2
    have hbb := bulk_prs (H := H) ((List.range n).map I)
    have hb2 : Rows.uptoBulkAll (((List.range n).map I).map (prD (H := H))) ≤ 1048576 := by
      rw [hdl] at hb
      simp only [Rows.uptoBulk] at hb
      omega
    have htl := tot_len ((List.range n).map I)
    refine ⟨(List.range n).map I, by simp, ⟨?_, by simpa using hl⟩, by omega, by omega⟩
    by_cases h0 : n = 0
    · left; simp [h0]
    · right
      have hsp : a.spot = none := by
        have := (hI 0 (by omega)).1 0 _ rfl
        simp only [Nat.zero_mul, Nat.add_zero] at this
        exact World.cell?_spot this
      obtain ⟨ab, aoff, asp⟩ := a
      simp only at hsp
      subst hsp
      refine ⟨ab, aoff, rfl, fun i x hx => ?_⟩
      obtain ⟨hin, rfl⟩ : ∃ h : i < n, x = I i := by
        have h1 : i < n := by have := (List.getElem?_eq_some_iff.1 hx).1; simpa using this
        refine ⟨h1, ?_⟩
        simp [h1] at hx
        exact hx.symm
      have hc := (hI i hin).1
      have ha : ∀ k, (⟨ab, aoff, none⟩ : Addr).add k = ⟨ab, aoff + k, none⟩ := fun k => by rw [Addr.add_lit]
      refine ⟨?_, ?_⟩
      · have := hc 0 _ rfl; rw [ha] at this; exact this
      · have := hc 1 _ rfl; rw [ha] at this; rw [Nat.add_assoc]; exact this
end
end Go.Proofs.YtbklpdcipfhdjaaGreatDoor.Or
