/- In plain Lean: insertion by ascending names is the one list that holds the pairs by ascending names. -/
import Derived.Test.YtbklpdcipfhdjaaGreatDoorSrt
namespace Go.Proofs.YtbklpdcipfhdjaaGreatDoor.Uq
open Go.Proofs.YtbklpdcipfhdjaaGreatDoor.P Go.Proofs.YtbklpdcipfhdjaaGreatDoor.W Go.Proofs.YtbklpdcipfhdjaaGreatDoor.Pk Go.Proofs.YtbklpdcipfhdjaaGreatDoor.Srt

def leP (x y : Pr) : Prop := lessP y x = false
theorem leP_iff (x y : Pr) : leP x y ↔ x.1.toList ≤ y.1.toList := by
  unfold leP
  rw [lessP_iff]
  simp
theorem leP_trans {x y z : Pr} (h1 : leP x y) (h2 : leP y z) : leP x z := by
  rw [leP_iff] at *
  exact List.le_trans h1 h2
theorem leP_of_less {x y : Pr} (h : lessP x y = true) : leP x y := by
  rw [leP_iff]
  rw [lessP_iff] at h
  simp at h
  exact List.le_of_lt h
theorem insP_nil (x : Pr) : insP [] x = [x] := rfl
theorem insP_cons (y : Pr) (l : List Pr) (x : Pr) : insP (y :: l) x = if lessP y x then y :: insP l x else x :: y :: l := by
  unfold insP
  simp only [pos]
  split <;> simp
theorem insP_perm (l : List Pr) (x : Pr) : (insP l x).Perm (x :: l) := by
  unfold insP
  refine List.perm_middle.trans ?_
  rw [List.take_append_drop]
theorem insP_sorted (x : Pr) : ∀ l : List Pr, l.Pairwise leP → (insP l x).Pairwise leP
  | [], _ => by rw [insP_nil]; simp
  | y :: l, h => by
    rw [insP_cons]
    rw [List.pairwise_cons] at h
    split
    · rename_i hl
      rw [List.pairwise_cons]
      refine ⟨fun z hz => ?_, insP_sorted x l h.2⟩
      rcases List.mem_cons.1 ((insP_perm l x).mem_iff.1 hz) with rfl | hz
      · exact leP_of_less hl
      · exact h.1 z hz
    · rename_i hl
      have hxy : leP x y := by simpa [leP] using hl
      rw [List.pairwise_cons, List.pairwise_cons]
      refine ⟨fun z hz => ?_, h.1, h.2⟩
      rcases List.mem_cons.1 hz with rfl | hz
      · exact hxy
      · exact leP_trans hxy (h.1 z hz)
theorem sortP_sorted (l : List Pr) : (sortP l).Pairwise leP := by
  suffices h : ∀ (l acc : List Pr), acc.Pairwise leP → (l.foldl insP acc).Pairwise leP from h l [] List.Pairwise.nil
  intro l
  induction l with
  | nil => intro acc h; exact h
  | cons x l ih => intro acc h; exact ih _ (insP_sorted x acc h)
theorem sortP_perm (l : List Pr) : (sortP l).Perm l := by
  suffices h : ∀ (l acc : List Pr), (l.foldl insP acc).Perm (acc ++ l) by simpa [sortP] using h l []
  intro l
  induction l with
  | nil => intro acc; simp
  | cons x l ih =>
    intro acc
    refine (ih _).trans ?_
    exact ((insP_perm acc x).append_right l).trans (by simpa using List.perm_middle.symm)
theorem toList_inj {s u : ByteArray} (h : s.toList = u.toList) : s = u := by
  apply eq_of_bl
  rw [ByteArray.toList_eq, ByteArray.toList_eq] at h
  exact h
theorem same_of_key : ∀ (E : List Pr), (E.map (·.1)).Nodup → ∀ a b, a ∈ E → b ∈ E → a.1 = b.1 → a = b
  | [], _, _, _, h, _, _ => absurd h (by simp)
  | p :: E, hn, a, b, ha, hb, e => by
    rw [List.map_cons, List.nodup_cons] at hn
    rcases List.mem_cons.1 ha with h1 | h1
    · rcases List.mem_cons.1 hb with h2 | h2
      · exact h1.trans h2.symm
      · exact absurd (List.mem_map.2 ⟨b, h2, e.symm.trans (by rw [h1])⟩) hn.1
    · rcases List.mem_cons.1 hb with h2 | h2
      · exact absurd (List.mem_map.2 ⟨a, h1, e.trans (by rw [h2])⟩) hn.1
      · exact same_of_key E hn.2 a b h1 h2 e
theorem uniq {E ps : List Pr} (hn : (E.map (·.1)).Nodup) (hp : ps.Perm E) (hs : ps.Pairwise fun x y => lessP y x = false) : sortP E = ps := by
  refine List.Perm.eq_of_pairwise (le := leP) (fun a b ha hb h1 h2 => ?_) (sortP_sorted E) hs ((sortP_perm E).trans hp.symm)
  rw [leP_iff] at h1 h2
  have e : a.1 = b.1 := toList_inj (List.le_antisymm h1 h2)
  have hE := (sortP_perm E).mem_iff.1 ha
  have hE2 := hp.mem_iff.1 hb
  exact same_of_key E hn a b hE hE2 e
end Go.Proofs.YtbklpdcipfhdjaaGreatDoor.Uq
