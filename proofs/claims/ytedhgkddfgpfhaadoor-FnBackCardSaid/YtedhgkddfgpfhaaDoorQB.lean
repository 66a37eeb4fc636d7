/- In plain Lean: what bEncode has written of a text. -/
import Derived.Test.YtedhgkddfgpfhaaDoorQ
import Derived.Test.YtedhgkddfgpfhaaDoorB64
namespace Go.Proofs.YtedhgkddfgpfhaaDoor.QB
open Go.Proofs.YtedhgkddfgpfhaaDoor.Q Go.Proofs.YtedhgkddfgpfhaaDoor.B64

/-- Words of the first la bytes are closed, and one is open. -/
def BI (s : List UInt8) (la : Nat) (l : List UInt8) : Prop :=
  ∃ ds, l = front 98 b64 ds ++ opn 98 ∧ ds.flatten = s.take la ∧ (∀ x ∈ ds, x ≠ []) ∧ l.length ≤ 17 * la + 10

theorem BI_zero (s : List UInt8) : BI s 0 (opn 98) := ⟨[], by simp [front], by simp, by simp, by simp [opn]⟩
theorem BI_len {s : List UInt8} {la : Nat} {l : List UInt8} (h : BI s la l) : l.length ≤ 17 * la + 10 := by
  obtain ⟨_, _, _, _, h⟩ := h; exact h

theorem BI_split {s : List UInt8} {la : Nat} {l : List UInt8} (h : BI s la l) (k : Nat) (hk : la < k) (hs : k ≤ s.length) : BI s k (l ++ b64 ((s.drop la).take (k - la)) ++ [63, 61, 32] ++ opn 98) := by
  obtain ⟨ds, e1, e2, h3, h4⟩ := h
  have hp := piece_ne s la (k - la) (by omega) (by omega)
  have hl := piece_len s la (k - la)
  refine ⟨ds ++ [(s.drop la).take (k - la)], ?_, ?_, ?_, ?_⟩
  · rw [front_snoc, e1]
  · rw [List.flatten_append, e2]
    simp only [List.flatten_cons, List.flatten_nil, List.append_nil]
    rw [← take_add', show la + (k - la) = k by omega]
  · intro x hx
    rcases List.mem_append.1 hx with hx | hx
    · exact h3 x hx
    · simp at hx; rw [hx]; exact hp
  · simp only [List.length_append, List.length_cons, List.length_nil, opn, b64_len]
    omega

theorem BI_end {s : List UInt8} {la : Nat} {l : List UInt8} (h : BI s la l) (hs : la < s.length) : Said 98 b64 s (l ++ b64 (s.drop la) ++ [63, 61]) := by
  obtain ⟨ds, e1, e2, h3, h4⟩ := h
  have hp : s.drop la ≠ [] := by
    intro e
    have := congrArg List.length e
    rw [List.length_drop, List.length_nil] at this
    omega
  obtain ⟨d0, r, e3, e4⟩ := text_of 98 b64 (s.drop la) ds
  refine ⟨d0, r, ?_, ?_, ?_, ?_⟩
  · rw [e1, e4]
  · rw [← e3, List.flatten_append, e2]
    simp
  · intro x hx; rw [← e3] at hx
    rcases List.mem_append.1 hx with hx | hx
    · exact h3 x hx
    · simp at hx; rw [hx]; exact hp
  · simp only [List.length_append, List.length_cons, List.length_nil, b64_len, List.length_drop]
    omega

end Go.Proofs.YtedhgkddfgpfhaaDoor.QB
