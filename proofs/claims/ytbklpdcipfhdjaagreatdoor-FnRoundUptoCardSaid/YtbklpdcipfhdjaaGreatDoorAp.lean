/- The list of the law with a parameter more: the runs of the two appends. -/
import Derived.Test.YtbklpdcipfhdjaaGreatDoorZ
import Derived.Laws.OwnMore
import Derived.Deep.RegionHeldLaw
namespace Go.Proofs.YtbklpdcipfhdjaaGreatDoor.Ap
open Go.RowKit Go.Proofs.YtbklpdcipfhdjaaGreatDoor.A Go.Proofs.YtbklpdcipfhdjaaGreatDoor.D Go.Proofs.YtbklpdcipfhdjaaGreatDoor.E Go.Proofs.YtbklpdcipfhdjaaGreatDoor.G Go.Proofs.YtbklpdcipfhdjaaGreatDoor.H Go.Proofs.YtbklpdcipfhdjaaGreatDoor.P Go.Proofs.YtbklpdcipfhdjaaGreatDoor.Q Go.Proofs.YtbklpdcipfhdjaaGreatDoor.R Go.Proofs.YtbklpdcipfhdjaaGreatDoor.T Go.Proofs.YtbklpdcipfhdjaaGreatDoor.V Go.Proofs.YtbklpdcipfhdjaaGreatDoor.W Go.Proofs.YtbklpdcipfhdjaaGreatDoor.X Go.Proofs.YtbklpdcipfhdjaaGreatDoor.Y Go.Proofs.YtbklpdcipfhdjaaGreatDoor.Z

/-- A list of written parameters as a slice: nil, or in a row. -/
structure Ls (ao : Option Addr) (cap : Nat) (l : List Wn) (w : World) : Prop where
  small : l.length ≤ 1048576
  sm : ∀ x ∈ l, Sm x
  text : (texts l).length ≤ 16777216
  row : l = [] ∨ ∃ b off, ao = some ⟨b, off, none⟩ ∧ RowW w b off l
  cap : ao = none → cap = 0
theorem Ls.below {ao : Option Addr} {cap : Nat} {l : List Wn} {w w' : World} (h : Ls ao cap l w) (hb : Below w.heap.size w w') : Ls ao cap l w' := by
  refine ⟨h.small, h.sm, h.text, ?_, h.cap⟩
  rcases h.row with h | ⟨b, off, e, hr⟩
  · exact .inl h
  · exact .inr ⟨b, off, e, hr.below hb⟩
theorem Ls.fits {ao : Option Addr} {cap : Nat} {l : List Wn} {w : World} (h : Ls ao cap l w) :
    Calls Tryz.prog 10 #[.slice ao l.length cap] w fun e w' => (∃ v, e = .returned (.bool v)) ∧ Below w.heap.size w w' := by
  rcases h.row with rfl | ⟨b, off, rfl, hr⟩
  · exact fits4_none ao cap w
  · exact fits4_row b off cap l w (by have := h.small; omega) hr
theorem Ls.texts {ao : Option Addr} {cap : Nat} {l : List Wn} {w : World} (h : Ls ao cap l w) :
    Calls Tryz.prog 15 #[.slice ao l.length cap] w fun e w' => e = .returned (.string (tx (texts l))) ∧ Below w.heap.size w w' := by
  rcases h.row with rfl | ⟨b, off, rfl, hr⟩
  · exact text_none ao cap w
  · exact text_row b off cap l w (by have := h.small; omega) h.sm (by have := h.text; omega) hr

/-- The box of a written parameter. -/
structure Bxd (Bx : Nat) (x : Wn) (W : World) : Prop where
  c0 : W.cell? ⟨Bx, 0, none⟩ = some (.string x.ahead)
  c1 : W.cell? ⟨Bx, 1, none⟩ = some (.string x.behind)
  c2 : W.cell? ⟨Bx, 2, none⟩ = some (.string x.name)
  c3 : W.cell? ⟨Bx, 3, none⟩ = some (.string x.value)
  c4 : W.cell? ⟨Bx, 4, none⟩ = some (.bool x.quoted)
  lt : Bx < W.heap.size
theorem Bxd.new (x : Wn) (w : World) : Bxd w.heap.size x (w.alloc (.cells x.cells 24)) := by
  refine ⟨?_, ?_, ?_, ?_, ?_, by simp⟩ <;> (rw [Lib.cell_of_heap (heap_alloc_new w _)]; rfl)
theorem Bxd.below {Bx : Nat} {x : Wn} {W W' : World} (h : Bxd Bx x W) (hb : Below W.heap.size W W') : Bxd Bx x W' :=
  ⟨(hb.cell (p := ⟨Bx, 0, none⟩) h.lt).trans h.c0, (hb.cell (p := ⟨Bx, 1, none⟩) h.lt).trans h.c1, (hb.cell (p := ⟨Bx, 2, none⟩) h.lt).trans h.c2, (hb.cell (p := ⟨Bx, 3, none⟩) h.lt).trans h.c3, (hb.cell (p := ⟨Bx, 4, none⟩) h.lt).trans h.c4, Nat.lt_of_lt_of_le h.lt hb.size⟩

/-- The cells of a list. -/
def wc (l : List Wn) : List Value := l.flatMap fun x => x.cells.toList
theorem wc_cons (x : Wn) (l : List Wn) : wc (x :: l) = [.string x.ahead, .string x.behind, .string x.name, .string x.value, .bool x.quoted] ++ wc l := rfl
theorem wc_len (l : List Wn) : (wc l).length = l.length * 5 := by
  induction l with
  | nil => rfl
  | cons p l ih => rw [wc_cons, List.length_append, ih]; simp; omega
theorem wc_one {l : List Wn} : ∀ u ∈ wc l, u.oneCell' = true := by
  intro u hu
  obtain ⟨x, _, hx⟩ := List.mem_flatMap.1 hu
  simp [Wn.cells] at hx
  rcases hx with rfl | rfl | rfl | rfl | rfl <;> rfl
theorem wc_cells {w : World} {b : Nat} : ∀ (l : List Wn) (off : Nat), RowW w b off l → ∀ j u, (wc l)[j]? = some u → w.cell? ⟨b, off + j, none⟩ = some u
  | [], _, _, _, _, h => by simp [wc] at h
  | x :: l, off, hr, j, u, h => by
    rw [wc_cons] at h
    by_cases hj : j < 5
    · obtain ⟨h0, h1, h2, h3, h4⟩ := hr 0 x rfl
      simp only [Nat.zero_mul, Nat.add_zero] at h0 h1 h2 h3 h4
      match j, hj, h with
      | 0, _, h => simp at h; subst h; exact h0
      | 1, _, h => simp at h; subst h; exact h1
      | 2, _, h => simp at h; subst h; exact h2
      | 3, _, h => simp at h; subst h; exact h3
      | 4, _, h => simp at h; subst h; exact h4
    · rw [List.getElem?_append_right (by simp; omega)] at h
      have hr2 : RowW w b (off + 5) l := by
        intro i y hy
        have := hr (i + 1) y (by simpa using hy)
        rw [show off + (i + 1) * 5 = off + 5 + i * 5 by omega] at this
        exact this
      have := wc_cells l (off + 5) hr2 (j - 5) u (by simpa using h)
      rw [show off + 5 + (j - 5) = off + j by omega] at this
      exact this
theorem wc_get : ∀ (l : List Wn) (i : Nat) (x : Wn), l[i]? = some x → (wc l)[i * 5]? = some (.string x.ahead) ∧ (wc l)[i * 5 + 1]? = some (.string x.behind) ∧ (wc l)[i * 5 + 2]? = some (.string x.name) ∧ (wc l)[i * 5 + 3]? = some (.string x.value) ∧ (wc l)[i * 5 + 4]? = some (.bool x.quoted)
  | [], _, _, h => by simp at h
  | q :: l, 0, p, h => by simp at h; subst h; exact ⟨rfl, rfl, rfl, rfl, rfl⟩
  | q :: l, i + 1, p, h => by
    have := wc_get l i p (by simpa using h)
    rw [wc_cons]
    have e : ∀ r, i * 5 + 5 + r = (i * 5 + r) + 5 := by intro r; omega
    have f : ∀ j, ([Value.string q.ahead, .string q.behind, .string q.name, .string q.value, .bool q.quoted] ++ wc l)[j + 5]? = (wc l)[j]? := by
      intro j; rw [List.getElem?_append_right (by simp)]; simp
    rw [show (i + 1) * 5 = i * 5 + 5 by omega, e 1, e 2, e 3, e 4, f, f, f, f, f]
    exact this
theorem wc_snoc (l : List Wn) (x : Wn) : wc (l ++ [x]) = wc l ++ x.cells.toList := by simp [wc]
theorem rowW_of {w : World} {B g cap n : Nat} {l : List Wn} (h : w.ownsRow B 24 5 (.slice (some ⟨g, 0, none⟩) n cap) n (wc l)) : l.length = n ∧ RowW w g 0 l := by
  have hl := h.1
  rw [wc_len] at hl
  refine ⟨by omega, fun i x hx => ?_⟩
  have hi : i < l.length := (List.getElem?_eq_some_iff.1 hx).1
  obtain ⟨h0, h1, h2, h3, h4⟩ := wc_get l i x hx
  simp only [Nat.zero_add]
  rw [h.cellAt _ (by omega), h.cellAt _ (by omega), h.cellAt _ (by omega), h.cellAt _ (by omega), h.cellAt _ (by omega)]
  exact ⟨h0, h1, h2, h3, h4⟩

theorem info24 : (Tryz.prog.info? 24).map (fun i => (i.zero, i.size, i.bytes)) = some (some (.agg #[.string ⟨#[]⟩, .string ⟨#[]⟩, .string ⟨#[]⟩, .string ⟨#[]⟩, .bool false]), 5, 72) := by kernel_rfl

/-- 'append' of the list to an empty slice. -/
theorem append1 {B g : Nat} {ao : Option Addr} {cap : Nat} {l : List Wn} {W : World} (hg : W.heap[g]? = some (.cells #[] 24 (0, 0))) (hBg : B ≤ g) (hBW : B ≤ W.heap.size) (hL : Ls ao cap l W) (ty : TypeId) :
    ∃ v' w', (Builtin.append_ #[22, 22] ty #[.slice (some ⟨g, 0, none⟩) 0 0, .slice ao l.length cap]).run Tryz.prog W = .ok v' w' ∧ w'.ownsRow B 24 5 v' l.length (wc l) ∧ W.grownBy w' (some g) := by
  obtain ⟨i0, hi, hz0, hz1, hz2⟩ := info_parts info24
  have hown : W.ownsRow B 24 5 (.slice (some ⟨g, 0, none⟩) 0 0) 0 [] := ⟨rfl, .inr ⟨g, 0, #[], rfl, hBg, hg, Nat.le_refl _, by decide, rfl, rfl⟩⟩
  rcases hL.row with rfl | ⟨b, off, rfl, hr⟩
  · cases ao with
    | none =>
      rw [hL.cap rfl]
      exact ⟨_, _, run_append_owned_none W B 22 ty 24 i0 5 Tryz.underlying22 hi _ 0 [] hown, hown, ⟨rfl, rfl, rfl, Nat.le_refl _, fun _ _ _ => rfl⟩⟩
    | some ad =>
      obtain ⟨v', w', h1, h2, h3, _⟩ := run_append_own W B 22 ty 24 i0 _ 5 72 Tryz.underlying22 hi hz0 hz1 hz2 rfl (by decide) _ 0 [] hown ad 0 cap [] rfl (fun j u hj => by simp at hj) (by simp) (by decide) (by decide) hBW
      exact ⟨v', w', h1, h2, h3⟩
  · have hs := hL.small
    obtain ⟨v', w', h1, h2, h3, _⟩ := run_append_own W B 22 ty 24 i0 _ 5 72 Tryz.underlying22 hi hz0 hz1 hz2 rfl (by decide) _ 0 [] hown ⟨b, off, none⟩ l.length cap (wc l) (wc_len l) (fun j u hj => by rw [Addr.add_lit]; exact wc_cells l off hr j u hj) wc_one (by unfold maxLen; omega) (by omega) hBW
    refine ⟨v', w', h1, ?_, h3⟩
    simpa using h2

/-- 'append' of one parameter more. -/
theorem append2 {B g c : Nat} {v : Value} {l : List Wn} {x : Wn} {W : World} (hown : W.ownsRow B 24 5 v l.length (wc l)) (hl : l.length ≤ 1048576) (hBW : B ≤ W.heap.size) (hg : W.heap[g]? = some (.cells x.cells 24 (0, 0))) (ty : TypeId) :
    ∃ v' w', (Builtin.append_ #[22, 22] ty #[v, .slice (some ⟨g, 0, none⟩) 1 c]).run Tryz.prog W = .ok v' w' ∧ w'.ownsRow B 24 5 v' (l ++ [x]).length (wc (l ++ [x])) ∧ W.grownBy w' v.ownBlock ∧ ∃ g2 c2, v' = .slice (some ⟨g2, 0, none⟩) (l ++ [x]).length c2 := by
  obtain ⟨i0, hi, hz0, hz1, hz2⟩ := info_parts info24
  obtain ⟨v', w', h1, h2, h3, _⟩ := run_append_own W B 22 ty 24 i0 _ 5 72 Tryz.underlying22 hi hz0 hz1 hz2 rfl (by decide) v l.length (wc l) hown ⟨g, 0, none⟩ 1 c (wc [x]) (wc_len [x]) (fun j u hj => by
      rw [Addr.add_lit, Lib.cell_of_heap hg]
      have : (wc [x])[j]? = x.cells[j]? := by simp [wc]
      rw [Nat.zero_add, ← this]
      exact hj) wc_one (by unfold maxLen; omega) (by omega) hBW
  have h2' : w'.ownsRow B 24 5 v' (l ++ [x]).length (wc (l ++ [x])) := by
    rw [wc_snoc, List.length_append, List.length_singleton]
    simpa [wc] using h2
  refine ⟨v', w', h1, h2', h3, ?_⟩
  rcases h2'.2 with ⟨_, h⟩ | ⟨g2, c2, _, h, _⟩
  · simp at h
  · exact ⟨g2, c2, h⟩

/-- A builtin's step in a region that draws its order, by its run. -/
theorem step_append {P : Program} {ops : Array Oper} {o : Oper} {a : Act} {w : World} {K : Act → World → Prop} {Q : Exit → Act → World → Prop} {E : Prop}
    (hw : Region.wanted o (yielded ops a.tmps) = true) (s x : Operand) (t : TypeId) (hop : o.op = Op.call { callee := Callee.builtin Builtin.append, args := #[s, x], argTypes := #[t, t] })
    (vs vx : Value) (hs : a.eval s = vs) (hx : a.eval x = vx) {R : Value → World → Prop} (hrun : ∃ v' w', (Builtin.append_ #[t, t] o.type #[vs, vx]).run P w = .ok v' w' ∧ R v' w')
    (hK : ∀ v' w', R v' w' → K (a.put o.dst v') w') :
    if Region.wanted o (yielded ops a.tmps) = true then Oper.wp P o a w K Q else E := by
  rw [if_pos hw]
  obtain ⟨v', w', hr, h⟩ := hrun
  unfold Oper.wp
  simp [execOp, hop, resolve, invoke, builtin, hs, hx, hr, Result.andThen]
  exact hK v' w' h

end Go.Proofs.YtbklpdcipfhdjaaGreatDoor.Ap
