/- How a list of texts among the arguments reads. -/
import Derived.Test.YtbklpdcipfhdjaaGreatDoorOpn
import Derived.Test.YtbklpdcipfhdjaaGreatDoorSl
namespace Go.Proofs.YtbklpdcipfhdjaaGreatDoor.Ot
open Go.ChangeShapes Go.WideShapes Go.Deep Go.RowKit Go.Proofs.YtbklpdcipfhdjaaGreatDoor.P Go.Proofs.YtbklpdcipfhdjaaGreatDoor.Sl Go.Proofs.YtbklpdcipfhdjaaGreatDoor.Opn

section
variable {H : Type} {enc : TypeId × Value → H} {w : World} {base : Nat} {spare : Nat → Bool} {held : Bool}

/-- A slice of texts, opened. -/
theorem open_texts {ao : Option Addr} {n cap : Nat} {d : DataW H} {p : List MemPlace} (h : DataW.Trod enc Tryz.prog w base spare held 34 (.slice ao n cap) d p) :
    ∃ l : List ByteArray, l.length = n ∧ (l = [] ∨ ∃ b off, ao = some ⟨b, off, none⟩ ∧ RowS w b off l) := by
  obtain ⟨fuel, hf⟩ := h
  have hf' : DataW.trod enc Tryz.prog w base spare held fuel 34 [.slice ao n cap] = some (d, p) := hf
  rcases open_slice1 Tryz.underlying34 cells9 hf' with ⟨h1, h2⟩ | ⟨a, len, cp, m, k, V, D, Pl, hcs, _, hl, hm, hmm, hx, hi⟩
  · simp only [List.cons.injEq, Value.slice.injEq, and_true] at h1
    obtain ⟨rfl, rfl, rfl⟩ := h1
    exact ⟨[], rfl, .inl rfl⟩
  · simp only [List.cons.injEq, Value.slice.injEq, and_true] at hcs
    obtain ⟨rfl, rfl, rfl⟩ := hcs
    have hnm : n ≤ m := by rw [hmm]; split <;> omega
    have each : ∀ i, i < n → ∃ s : ByteArray, w.cell? (a.add i) = some (.string s) := by
      intro i hin
      obtain ⟨h1, h2⟩ := hi i (by omega)
      obtain ⟨s, e, _, _⟩ := DataW.trod_string Tryz.underlying9 h2
      simp at e
      exact ⟨s, by rw [h1, e]⟩
    obtain ⟨I, hI⟩ := choose_lt each
    refine ⟨(List.range n).map I, by simp, ?_⟩
    by_cases h0 : n = 0
    · left; simp [h0]
    · right
      have hsp : a.spot = none := by
        have := hI 0 (by omega)
        exact World.cell?_spot this
      obtain ⟨ab, aoff, asp⟩ := a
      simp only at hsp
      subst hsp
      refine ⟨ab, aoff, rfl, fun i x hx => ?_⟩
      obtain ⟨hin, rfl⟩ : ∃ h : i < n, x = I i := by
        have h1 : i < n := by have := (List.getElem?_eq_some_iff.1 hx).1; simpa using this
        refine ⟨h1, ?_⟩
        simp [h1] at hx
        exact hx.symm
      have := hI i hin
      rw [Addr.add_lit] at this
      exact this
end
end Go.Proofs.YtbklpdcipfhdjaaGreatDoor.Ot
