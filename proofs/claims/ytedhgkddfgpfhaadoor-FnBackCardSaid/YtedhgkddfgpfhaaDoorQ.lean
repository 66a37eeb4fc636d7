/- In plain Lean, with no program in sight: the Q encoding of bytes, encoded words, and texts of them. -/
namespace Go.Proofs.YtedhgkddfgpfhaaDoor.Q

/-- A capital hexadecimal digit. -/
def hexd (n : Nat) : UInt8 := if n < 10 then UInt8.ofNat (48 + n) else UInt8.ofNat (55 + n)
/-- A byte that stands for itself in the Q encoding. -/
def plainQ (b : UInt8) : Bool := decide (33 ≤ b.toNat) && decide (b.toNat ≤ 126) && decide (b.toNat ≠ 61) && decide (b.toNat ≠ 63) && decide (b.toNat ≠ 95)
def qch (b : UInt8) : List UInt8 := if b.toNat = 32 then [95] else if plainQ b then [b] else [61, hexd (b.toNat / 16), hexd (b.toNat % 16)]
def qenc (l : List UInt8) : List UInt8 := l.flatMap qch

theorem qenc_nil : qenc [] = [] := rfl
theorem qenc_append (a b : List UInt8) : qenc (a ++ b) = qenc a ++ qenc b := List.flatMap_append
theorem qenc_snoc (a : List UInt8) (c : UInt8) : qenc (a ++ [c]) = qenc a ++ qch c := by rw [qenc_append]; simp [qenc]
theorem qenc_cons (c : UInt8) (r : List UInt8) : qenc (c :: r) = qch c ++ qenc r := rfl

theorem hexd_ne (n : Nat) (h : n < 16) : hexd n ≠ 63 := by
  have : n = 0 ∨ n = 1 ∨ n = 2 ∨ n = 3 ∨ n = 4 ∨ n = 5 ∨ n = 6 ∨ n = 7 ∨ n = 8 ∨ n = 9 ∨ n = 10 ∨ n = 11 ∨ n = 12 ∨ n = 13 ∨ n = 14 ∨ n = 15 := by omega
  rcases this with rfl | rfl | rfl | rfl | rfl | rfl | rfl | rfl | rfl | rfl | rfl | rfl | rfl | rfl | rfl | rfl <;> decide

theorem qch_len (b : UInt8) : (qch b).length ≤ 3 ∧ 1 ≤ (qch b).length := by
  unfold qch; split
  · exact ⟨by simp, by simp⟩
  · split <;> exact ⟨by simp, by simp⟩
theorem qenc_len (l : List UInt8) : (qenc l).length ≤ 3 * l.length := by
  induction l with
  | nil => simp [qenc]
  | cons c r ih => rw [qenc_cons, List.length_append, List.length_cons]; have := (qch_len c).1; omega

theorem qch_no (b : UInt8) : ∀ x ∈ qch b, x ≠ 63 := by
  intro x hx
  unfold qch at hx
  have hb := b.toNat_lt
  split at hx
  · simp at hx; rw [hx]; decide
  · split at hx
    · rename_i h1 h2
      simp at hx; subst hx
      intro e; subst e; revert h2; decide
    · simp at hx
      rcases hx with rfl | rfl | rfl
      · decide
      · exact hexd_ne _ (by omega)
      · exact hexd_ne _ (by omega)
theorem qenc_no (l : List UInt8) : ∀ x ∈ qenc l, x ≠ 63 := by
  intro x hx
  unfold qenc at hx
  rw [List.mem_flatMap] at hx
  obtain ⟨c, _, hc⟩ := hx
  exact qch_no c x hc

/-- The beginning of an encoded word in UTF-8: '=?utf-8?e?'. -/
def opn (e : UInt8) : List UInt8 := [61, 63, 117, 116, 102, 45, 56, 63, e, 63]

/-- A text of encoded words with a space between two of them, whose contents encode 'ds'. -/
def text (e : UInt8) (enc : List UInt8 → List UInt8) : List UInt8 → List (List UInt8) → List UInt8
  | d, [] => opn e ++ enc d ++ [63, 61]
  | d, d' :: ds => opn e ++ enc d ++ [63, 61, 32] ++ text e enc d' ds

/-- The words that are closed, in front of an open one. -/
def front (e : UInt8) (enc : List UInt8 → List UInt8) (ds : List (List UInt8)) : List UInt8 := ds.flatMap fun d => opn e ++ enc d ++ [63, 61, 32]

theorem front_snoc (e : UInt8) (enc : List UInt8 → List UInt8) (ds : List (List UInt8)) (d : List UInt8) : front e enc (ds ++ [d]) = front e enc ds ++ opn e ++ enc d ++ [63, 61, 32] := by
  simp [front]

/-- What is written behind the last word: a text of words. -/
theorem text_of (e : UInt8) (enc : List UInt8 → List UInt8) (d : List UInt8) (ds : List (List UInt8)) : ∃ d0 r, ds ++ [d] = d0 :: r ∧ front e enc ds ++ opn e ++ enc d ++ [63, 61] = text e enc d0 r := by
  induction ds with
  | nil => exact ⟨d, [], rfl, by simp [front, text]⟩
  | cons d1 r ih =>
    obtain ⟨d0, r', e1, e2⟩ := ih
    refine ⟨d1, d0 :: r', by rw [← e1]; rfl, ?_⟩
    rw [text, ← e2]
    simp [front]

/-- What has been written of the first k bytes of a text, the last word being open. -/
def QI (s : List UInt8) (k cur : Nat) (l : List UInt8) : Prop :=
  ∃ ds d, l = front 113 qenc ds ++ opn 113 ++ qenc d ∧ (ds ++ [d]).flatten = s.take k ∧ (∀ x ∈ ds, x ≠ []) ∧ (0 < k → d ≠ []) ∧ (0 < cur → d ≠ []) ∧ l.length ≤ 16 * k + 10

theorem QI_zero (s : List UInt8) : QI s 0 0 (opn 113) :=
  ⟨[], [], by simp [front, qenc], by simp, by simp, by simp, by simp, by simp [opn]⟩

theorem QI_len {s : List UInt8} {k cur : Nat} {l : List UInt8} (h : QI s k cur l) : l.length ≤ 16 * k + 10 := by
  obtain ⟨_, _, _, _, _, _, _, h⟩ := h; exact h

theorem take_add' (s : List UInt8) (k n : Nat) : s.take (k + n) = s.take k ++ (s.drop k).take n := by
  rw [List.take_add]

theorem piece_ne (s : List UInt8) (k n : Nat) (h : k + n ≤ s.length) (h1 : 1 ≤ n) : (s.drop k).take n ≠ [] := by
  intro e
  have := congrArg List.length e
  rw [List.length_take, List.length_drop, List.length_nil] at this
  omega

theorem piece_len (s : List UInt8) (k n : Nat) : ((s.drop k).take n).length ≤ n := List.length_take_le _ _

theorem QI_write {s : List UInt8} {k cur : Nat} {l : List UInt8} (h : QI s k cur l) (n cur' : Nat) (hn : k + n ≤ s.length) (h1 : 1 ≤ n) : QI s (k + n) cur' (l ++ qenc ((s.drop k).take n)) := by
  obtain ⟨ds, d, e1, e2, h3, _, _, h6⟩ := h
  have hp := piece_ne s k n hn h1
  refine ⟨ds, d ++ (s.drop k).take n, ?_, ?_, h3, fun _ => by simp [hp], fun _ => by simp [hp], ?_⟩
  · rw [e1, qenc_append]; simp
  · rw [take_add', ← e2]; simp
  · rw [List.length_append]
    have a := qenc_len ((s.drop k).take n)
    have b := piece_len s k n
    omega

theorem QI_split {s : List UInt8} {k cur : Nat} {l : List UInt8} (h : QI s k cur l) (hc : 0 < cur) (n cur' : Nat) (hn : k + n ≤ s.length) (h1 : 1 ≤ n) : QI s (k + n) cur' (l ++ [63, 61, 32] ++ opn 113 ++ qenc ((s.drop k).take n)) := by
  obtain ⟨ds, d, e1, e2, h3, _, h5, h6⟩ := h
  have hp := piece_ne s k n hn h1
  refine ⟨ds ++ [d], (s.drop k).take n, ?_, ?_, ?_, fun _ => hp, fun _ => hp, ?_⟩
  · rw [e1, front_snoc]
  · rw [take_add', ← e2]; simp
  · intro x hx
    rcases List.mem_append.1 hx with hx | hx
    · exact h3 x hx
    · simp at hx; rw [hx]; exact h5 hc
  · have a := qenc_len ((s.drop k).take n)
    have b := piece_len s k n
    simp only [List.length_append, List.length_cons, List.length_nil, opn]
    omega

/-- A text of words whose contents encode the pieces of s. -/
def Said (e : UInt8) (enc : List UInt8 → List UInt8) (s l : List UInt8) : Prop :=
  ∃ d ds, l = text e enc d ds ∧ (d :: ds).flatten = s ∧ (∀ x ∈ d :: ds, x ≠ []) ∧ l.length ≤ 17 * s.length + 12

theorem QI_end {s : List UInt8} {cur : Nat} {l : List UInt8} (h : QI s s.length cur l) (hs : 0 < s.length) : Said 113 qenc s (l ++ [63, 61]) := by
  obtain ⟨ds, d, e1, e2, h3, h4, _, h6⟩ := h
  obtain ⟨d0, r, e3, e4⟩ := text_of 113 qenc d ds
  refine ⟨d0, r, ?_, ?_, ?_, ?_⟩
  · rw [e1, e4]
  · rw [← e3, e2, List.take_length]
  · intro x hx; rw [← e3] at hx
    rcases List.mem_append.1 hx with hx | hx
    · exact h3 x hx
    · simp at hx; rw [hx]; exact h4 hs
  · rw [List.length_append]; simp; omega

end Go.Proofs.YtedhgkddfgpfhaaDoor.Q
