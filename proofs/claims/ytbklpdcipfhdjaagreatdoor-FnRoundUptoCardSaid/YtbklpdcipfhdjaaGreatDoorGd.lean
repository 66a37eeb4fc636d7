/- For FnExactParse and FnTrailing: Parse at the good texts, and the parameters that are asked for. -/
import Derived.Test.YtbklpdcipfhdjaaGreatDoorUq
import Derived.Test.YtbklpdcipfhdjaaGreatDoorSm
namespace Go.Proofs.YtbklpdcipfhdjaaGreatDoor.Gd
open Go.RowKit Go.Maps Go.Proofs.YtbklpdcipfhdjaaGreatDoor.D Go.Proofs.YtbklpdcipfhdjaaGreatDoor.F Go.Proofs.YtbklpdcipfhdjaaGreatDoor.Tk Go.Proofs.YtbklpdcipfhdjaaGreatDoor.Z Go.Proofs.YtbklpdcipfhdjaaGreatDoor.Y Go.Proofs.YtbklpdcipfhdjaaGreatDoor.O Go.Proofs.YtbklpdcipfhdjaaGreatDoor.A Go.Proofs.YtbklpdcipfhdjaaGreatDoor.E Go.Proofs.YtbklpdcipfhdjaaGreatDoor.G Go.Proofs.YtbklpdcipfhdjaaGreatDoor.H Go.Proofs.YtbklpdcipfhdjaaGreatDoor.P Go.Proofs.YtbklpdcipfhdjaaGreatDoor.Q Go.Proofs.YtbklpdcipfhdjaaGreatDoor.R Go.Proofs.YtbklpdcipfhdjaaGreatDoor.T Go.Proofs.YtbklpdcipfhdjaaGreatDoor.V Go.Proofs.YtbklpdcipfhdjaaGreatDoor.W Go.Proofs.YtbklpdcipfhdjaaGreatDoor.X Go.Proofs.YtbklpdcipfhdjaaGreatDoor.Pe Go.Proofs.YtbklpdcipfhdjaaGreatDoor.Pk Go.Proofs.YtbklpdcipfhdjaaGreatDoor.Ap Go.Proofs.YtbklpdcipfhdjaaGreatDoor.Rg Go.Proofs.YtbklpdcipfhdjaaGreatDoor.Ins Go.Proofs.YtbklpdcipfhdjaaGreatDoor.Srt Go.Proofs.YtbklpdcipfhdjaaGreatDoor.Sm Go.Proofs.YtbklpdcipfhdjaaGreatDoor.Uq

/-- A slice of pairs: nil, or in a row. -/
def Pv (v : Value) (L : List Pr) (w : World) : Prop := v = .slice none 0 0 ∧ L = [] ∨ ∃ g cap, v = .slice (some ⟨g, 0, none⟩) L.length cap ∧ RowP w g 0 L
theorem Pv.below {v : Value} {L : List Pr} {w w' : World} (h : Pv v L w) (hb : Below w.heap.size w w') : Pv v L w' := by
  rcases h with h | ⟨g, cap, h1, h3⟩
  · exact .inl h
  · exact .inr ⟨g, cap, h1, h3.below hb⟩
theorem pv_own {w : World} {B n : Nat} {v : Value} {L : List Pr} (h : w.ownsRow B 38 2 v n (pc L)) : Pv v L w := by
  have hl := h.1
  rw [pc_len] at hl
  rcases h.2 with ⟨hv, h0⟩ | ⟨g, cp, cur, hv, _⟩
  · exact .inl ⟨hv, List.eq_nil_of_length_eq_zero (by omega)⟩
  · subst hv
    obtain ⟨h1, h2⟩ := own_row h
    obtain rfl : n = L.length := by omega
    exact .inr ⟨g, cp, rfl, h2⟩
theorem lowP_prs (l : List Wn) : lowP (prs l) = prl l := by simp [lowP, prs, prl]

theorem pairs_pv {ao : Option Addr} {cap : Nat} {l : List Wn} {w : World} (h : Ls ao cap l w) :
    Calls Tryz.prog 28 #[.slice ao l.length cap] w fun e w' => ∃ v, e = .returned v ∧ Pv v (prs l) w' ∧ Below w.heap.size w w' := by
  rcases h.row with rfl | ⟨b, off, rfl, hr⟩
  · refine (pairs_none ao cap w).mono ?_
    rintro e w' ⟨rfl, hb⟩
    exact ⟨_, rfl, .inl ⟨rfl, rfl⟩, hb⟩
  · refine (pairs_row b off cap l w (by have := h.small; omega) hr).mono ?_
    rintro e w' ⟨v, rfl, h1, hb⟩
    refine ⟨v, rfl, ?_, hb⟩
    rcases shape38 h1 with ⟨h2, h3⟩ | ⟨g, cp, h2⟩
    · have : l = [] := List.eq_nil_of_length_eq_zero h3
      exact .inl ⟨h2, by rw [this]; rfl⟩
    · subst h2
      obtain ⟨h3, h4, h5⟩ := rowP_of h1
      exact .inr ⟨g, cp, by rw [h3], h5⟩
theorem map_pv {v : Value} {L : List Pr} {w : World} (h : Pv v L w) (hl : L.length ≤ 1048576) (hs : ∀ p ∈ L, p.1.size ≤ 1099511627776) :
    Calls Tryz.prog 27 #[v] w fun e w' => ∃ v', e = .returned v' ∧ Pv v' (sortP (lowP L)) w' ∧ Below w.heap.size w w' := by
  rcases h with ⟨rfl, rfl⟩ | ⟨g, cap, rfl, hr⟩
  · refine (map_none none 0 w).mono ?_
    rintro e w' ⟨rfl, hb⟩
    exact ⟨_, rfl, .inl ⟨rfl, rfl⟩, hb⟩
  · refine (map_row g 0 cap L w (by omega) hs hr).mono ?_
    rintro e w' ⟨v', rfl, h1, hb⟩
    exact ⟨v', rfl, pv_own h1, hb⟩

set_option maxHeartbeats 400000 in
set_option maxRecDepth 100000 in
theorem same_pv {v v2 : Value} {L : List Pr} {w : World} (h : Pv v L w) (h2 : Pv v2 L w) (hl : L.length ≤ 1048576) :
    Calls Tryz.prog 22 #[v, v2] w fun e w' => e = .returned (.bool true) ∧ Below w.heap.size w w' := by
  have hc : (∃ a n c, v = .slice a n c) ∧ (∃ a n c, v2 = .slice a n c) ∧ Calls Tryz.prog 41 #[v, v2] w fun e w' => e = .returned (.bool true) ∧ Below w.heap.size w w' := by
    rcases h with ⟨rfl, h0⟩ | ⟨g, cap, rfl, hr⟩
    · rcases h2 with ⟨rfl, _⟩ | ⟨g2, cap2, rfl, _⟩
      · exact ⟨⟨_, _, _, rfl⟩, ⟨_, _, _, rfl⟩, Eq.equal_nil none none 0 0 w⟩
      · subst h0; exact ⟨⟨_, _, _, rfl⟩, ⟨_, _, _, rfl⟩, Eq.equal_nil none _ 0 _ w⟩
    · rcases h2 with ⟨rfl, h0⟩ | ⟨g2, cap2, rfl, hr2⟩
      · subst h0; exact ⟨⟨_, _, _, rfl⟩, ⟨_, _, _, rfl⟩, Eq.equal_nil _ none _ 0 w⟩
      · exact ⟨⟨_, _, _, rfl⟩, ⟨_, _, _, rfl⟩, Eq.equal_same g g2 cap cap2 L w (by omega) hr hr2⟩
  obtain ⟨⟨a, n, c, rfl⟩, ⟨a2, n2, c2, rfl⟩, hc⟩ := hc
  have HC := Lib.hid hc
  clear hc h h2
  go_enter Tryz.func22, Tryz.ntmps22
  go_wp2_with fail
  refine HC.out.mono ?_
  rintro e w' ⟨rfl, hb⟩
  have HB := Lib.hid hb
  clear hb
  go_wp2_with fail
  go_ret
  exact ⟨rfl, HB.out⟩

theorem good_pv {l : List Wn} {w w' : World} {v : Value} {ps : List Pr} (h : Pk.Good (prl l) w v w' ps) (hn : (l.map fun x => lower x.name).Nodup) : Pv v (sortP (prl l)) w' := by
  have e : sortP (prl l) = ps := uniq (by simpa [prl, Function.comp_def] using hn) h.perm h.sorted
  rw [e]
  exact h.own

/-- Parse at the text of written parameters. -/
theorem parse_good (e0 e1 : Value) (t : ByteArray) (l : List Wn) (W : World) (hE : Env e0 e1 W) (ht : t.size ≤ 1048576) (hT : isType t = true) (hl : l.length ≤ 1048576) (htl : (texts l).length ≤ 16777216) (hA : Apart l) :
    Calls Tryz.prog 14 #[.string (t ++ tx (texts l))] W fun e w' => ∃ v, e = .returned (.tuple #[.string (lower t), v, .int .i64 0]) ∧ Pv v (sortP (prl l)) w' ∧ Below W.heap.size W w' := by
  have hs : (t ++ tx (texts l)).size ≤ 1099511627776 := by
    have := sz t
    rw [sz]; simp only [bl_append, bl_tx, List.length_append]; omega
  refine (impl_good _ (lower t) (Dn l) (prl l) l.length W (de_Dn l hA.apart) (by simpa [prl] using hl) ((parse_end e0 e1 _ t l W hE hs (by simp only [bl_append, bl_tx, List.append_nil]) hT hA).mono ?_)).mono ?_
  · rintro e w' ⟨B, rfl, h⟩
    exact ⟨B, rfl, h.owns, h.below, h.ge⟩
  · rintro e w' ⟨v, ps, rfl, h⟩
    exact ⟨v, rfl, good_pv h hA.apart, h.below⟩

/-- Parse at that text with a semicolon behind it, and blanks. -/
theorem parse_trail (e0 e1 : Value) (t : ByteArray) (l : List Wn) (a b : ByteArray) (W : World) (hE : Env e0 e1 W) (ht : t.size ≤ 1048576) (hT : isType t = true) (hl : l.length ≤ 1048576) (htl : (texts l).length ≤ 16777216) (hA : Apart l)
    (ha : (bl a).all blk = true) (hb : (bl b).all blk = true) (has : a.size ≤ 1048576) (hbs : b.size ≤ 1048576) :
    Calls Tryz.prog 14 #[.string (t ++ tx (texts l) ++ a ++ ⟨#[59]⟩ ++ b)] W fun e w' => ∃ v, e = .returned (.tuple #[.string (lower t), v, .int .i64 0]) ∧ Pv v (sortP (prl l)) w' ∧ Below W.heap.size W w' := by
  have hll : bl (t ++ tx (texts l) ++ a ++ ⟨#[59]⟩ ++ b) = bl t ++ (texts l ++ (bl a ++ 59 :: bl b)) := by
    simp only [bl_append, bl_tx]
    simp [bl]
  have hs : (t ++ tx (texts l) ++ a ++ ⟨#[59]⟩ ++ b).size ≤ 1099511627776 := by
    have h1 := sz t
    have h2 := sz a
    have h3 := sz b
    rw [sz, hll]; simp only [List.length_append, List.length_cons]; omega
  refine (impl_good _ (lower t) (Dn l) (prl l) l.length W (de_Dn l hA.apart) (by simpa [prl] using hl) ((parse_semi e0 e1 _ t l (bl a) (bl b) W hE hs hll hT hA ha hb).mono ?_)).mono ?_
  · rintro e w' ⟨B, rfl, h⟩
    exact ⟨B, rfl, h.owns, h.below, h.ge⟩
  · rintro e w' ⟨v, ps, rfl, h⟩
    exact ⟨v, rfl, good_pv h hA.apart, h.below⟩

set_option maxHeartbeats 400000 in
set_option maxRecDepth 100000 in
theorem well_none (ao : Option Addr) (cap : Nat) (w : World) :
    Calls Tryz.prog 13 #[.slice ao 0 cap] w fun e w' => (∃ v, e = .returned (.bool v)) ∧ Below w.heap.size w w' := by
  have hp := pairs_none ao cap w
  go_enter Tryz.func13, Tryz.ntmps13
  go_wp2_with fail
  refine wp_loop_rounds 1 ?_
  rw [rounds_succ]
  go_wp2_with fail
  refine hp.mono ?_
  rintro e w1 ⟨rfl, h1⟩
  have hn := names_none none 0 w1
  go_wp2_with fail
  refine hn.mono ?_
  rintro e w2 ⟨rfl, h2⟩
  go_wp2_with fail
  go_ret
  exact ⟨⟨_, rfl⟩, chain h1 h2⟩
theorem well_ls {ao : Option Addr} {cap : Nat} {l : List Wn} {w : World} (h : Ls ao cap l w) :
    Calls Tryz.prog 13 #[.slice ao l.length cap] w fun e w' => (∃ v, e = .returned (.bool v) ∧ (v = true → Apart l)) ∧ Below w.heap.size w w' := by
  rcases h.row with rfl | ⟨b, off, rfl, hr⟩
  · refine (well_none ao cap w).mono ?_
    rintro e w' ⟨⟨v, rfl⟩, hb⟩
    exact ⟨⟨v, rfl, fun _ => ⟨by simp, by simp, by simp⟩⟩, hb⟩
  · exact well_row b off cap l w (by have := h.small; omega) h.sm hr
end Go.Proofs.YtbklpdcipfhdjaaGreatDoor.Gd
