/- In plain Lean: what a map of names and values holds, and what a range over it has gathered. -/
import Derived.Test.YtbklpdcipfhdjaaGreatDoorTk
import Derived.Test.YtbklpdcipfhdjaaGreatDoorX
namespace Go.Proofs.YtbklpdcipfhdjaaGreatDoor.Pe
open Go.RowKit Go.Maps Go.Proofs.YtbklpdcipfhdjaaGreatDoor.G Go.Proofs.YtbklpdcipfhdjaaGreatDoor.H Go.Proofs.YtbklpdcipfhdjaaGreatDoor.P Go.Proofs.YtbklpdcipfhdjaaGreatDoor.T Go.Proofs.YtbklpdcipfhdjaaGreatDoor.W

/-- The map holds just these pairs. -/
structure DE (D : DataW Unit) (E : List Pr) : Prop where
  nodup : (E.map (·.1)).Nodup
  has : ∀ kl, Maps.has D kl = true → ∃ p ∈ E, kl = .string (bl p.1)
  at_ : ∀ p ∈ E, Maps.has D (.string (bl p.1)) = true ∧ ∀ z, D.atKey (.string (bl p.1)) z = .lit (.string (bl p.2))
  isMap : IsMap D

theorem key_inj {a b : ByteArray} (h : (Lit.string (bl a)) = .string (bl b)) : a = b := by
  simp only [Lit.string.injEq] at h
  exact eq_of_bl h
theorem keyLit (s : ByteArray) : WideAt.IsKeyLit (.string (bl s)) := by
  simp [WideAt.IsKeyLit]

theorem DE.nil : DE (.map []) [] := ⟨by simp, fun kl h => (by cases h), fun p hp => absurd hp (by simp), ⟨[], rfl⟩⟩
theorem DE.put {D : DataW Unit} {E : List Pr} (h : DE D E) (p : Pr) (hp : ∀ q ∈ E, q.1 ≠ p.1) : DE (D.put (.string (bl p.1)) (.lit (.string (bl p.2)))) (E ++ [p]) := by
  refine ⟨?_, fun kl hk => ?_, fun q hq => ?_, h.isMap.put _ _⟩
  · rw [List.map_append, List.nodup_append]
    refine ⟨h.nodup, by simp, ?_⟩
    intro a ha b hb e
    obtain ⟨q, hq, rfl⟩ := List.mem_map.1 ha
    simp at hb
    exact hp q hq (e.trans hb)
  · by_cases e : kl = .string (bl p.1)
    · exact ⟨p, by simp, e⟩
    · rw [has_put_other e] at hk
      obtain ⟨q, hq, rfl⟩ := h.has kl hk
      exact ⟨q, by simp [hq], rfl⟩
  · rcases List.mem_append.1 hq with hq | hq
    · have hne : (Lit.string (bl q.1)) ≠ .string (bl p.1) := fun e => hp q hq (key_inj e)
      rw [has_put_other hne]
      refine ⟨(h.at_ q hq).1, fun z => ?_⟩
      rw [atKey_put_other hne]
      exact (h.at_ q hq).2 z
    · simp at hq
      subst hq
      exact ⟨has_put_same h.isMap (keyLit _) _, fun z => atKey_put_same h.isMap (keyLit _) _ z⟩

/-- The pairs of written parameters, their names in small letters. -/
def prl (l : List Wn) : List Pr := l.map fun x => (lower x.name, x.value)
theorem prl_snoc (l : List Wn) (x : Wn) : prl (l ++ [x]) = prl l ++ [(lower x.name, x.value)] := by simp [prl]
theorem de_Dn (l : List Wn) (h : (l.map fun x => lower x.name).Nodup) : DE (Dn l) (prl l) := by
  suffices hs : ∀ (pre suf : List Wn), ((pre ++ suf).map fun x => lower x.name).Nodup → DE (Dn pre) (prl pre) → DE (Dn (pre ++ suf)) (prl (pre ++ suf)) by
    exact hs [] l h DE.nil
  intro pre suf
  induction suf generalizing pre with
  | nil => intro _ hd; simpa using hd
  | cons x suf ih =>
    intro hn hd
    rw [show pre ++ x :: suf = (pre ++ [x]) ++ suf by simp] at hn ⊢
    refine ih (pre ++ [x]) hn ?_
    rw [Dn_snoc, prl_snoc]
    refine hd.put (lower x.name, x.value) ?_
    intro q hq e
    obtain ⟨y, hy, rfl⟩ := List.mem_map.1 hq
    rw [List.append_assoc, List.map_append, List.nodup_append] at hn
    exact hn.2.2 _ (List.mem_map.2 ⟨y, hy, rfl⟩) _ (by simp) e

/-- What a range over the map has gathered so far. -/
structure RS (E : List Pr) (left : Lit → Bool) (ps : List Pr) : Prop where
  sub : ∀ p ∈ ps, p ∈ E ∧ left (.string (bl p.1)) = false
  nodup : (ps.map (·.1)).Nodup
  rest : ∀ p ∈ E, left (.string (bl p.1)) = true ∨ p ∈ ps
theorem RS.start {D : DataW Unit} {E : List Pr} (h : DE D E) : RS E (Maps.has D) [] := ⟨by simp, by simp, fun p hp => .inl (h.at_ p hp).1⟩
theorem RS.step {D : DataW Unit} {E : List Pr} {left : Lit → Bool} {ps : List Pr} (h : RS E left ps) (hD : DE D E) {x c : ByteArray} (hl : left (.string (bl x)) = true) (hat : ∀ zd, D.atKey (.string (bl x)) zd = .lit (.string (bl c))) :
    (x, c) ∈ E ∧ RS E (fun z => left z && !z.sameKey (.string (bl x))) (ps ++ [(x, c)]) := by
  obtain ⟨p, hp, e⟩ := hD.has _ (has_true_of_atKey hat)
  have e1 := key_inj e
  have e2 := ((hD.at_ p hp).2 .nil).symm.trans (e ▸ hat .nil)
  have e3 : c = p.2 := by
    simp only [DataW.lit.injEq, Lit.string.injEq] at e2
    exact (eq_of_bl e2).symm
  have hpe : (x, c) = p := by rw [e1, e3]
  have hin : (x, c) ∈ E := hpe ▸ hp
  refine ⟨hin, fun q hq => ?_, ?_, fun q hq => ?_⟩
  · rcases List.mem_append.1 hq with hq | hq
    · refine ⟨(h.sub q hq).1, ?_⟩
      rw [(h.sub q hq).2]; rfl
    · simp at hq
      subst hq
      refine ⟨hin, ?_⟩
      rw [WideAt.sameKey_self (keyLit x)]
      simp
  · rw [List.map_append, List.nodup_append]
    refine ⟨h.nodup, by simp, ?_⟩
    intro a ha b hb e
    obtain ⟨q, hq, rfl⟩ := List.mem_map.1 ha
    simp at hb
    have h1 := (h.sub q hq).2
    rw [e, hb, hl] at h1
    cases h1
  · by_cases e : q = (x, c)
    · exact .inr (by simp [e])
    · rcases h.rest q hq with h1 | h1
      · left
        have hne : (Lit.string (bl q.1)) ≠ .string (bl x) := by
          intro e4
          have e5 := key_inj e4
          apply e
          have hn := hD.nodup
          have hx2 : q.2 = c := by
            have h6 := (hD.at_ q hq).2 .nil
            rw [e4, hat .nil] at h6
            simp only [DataW.lit.injEq, Lit.string.injEq] at h6
            exact (eq_of_bl h6).symm
          rw [← e5, ← hx2]
        rw [h1, sameKey_ne hne]; rfl
      · exact .inr (by simp [h1])
theorem nodup_of_map {l : List Pr} (h : (l.map (·.1)).Nodup) : l.Nodup := (List.pairwise_map.1 h).imp fun hne e => hne (congrArg Prod.fst e)
theorem RS.done {D : DataW Unit} {E : List Pr} {left : Lit → Bool} {ps : List Pr} (h : RS E left ps) (hD : DE D E) (hl : ∀ kl, left kl = false) : ps.Perm E := by
  refine (List.perm_ext_iff_of_nodup (nodup_of_map h.nodup) (nodup_of_map hD.nodup)).2 fun p => ⟨fun hp => (h.sub p hp).1, fun hp => ?_⟩
  rcases h.rest p hp with h1 | h1
  · rw [hl] at h1; cases h1
  · exact h1

end Go.Proofs.YtbklpdcipfhdjaaGreatDoor.Pe
