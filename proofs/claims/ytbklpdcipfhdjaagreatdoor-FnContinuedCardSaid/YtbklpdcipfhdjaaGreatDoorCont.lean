/- For FnContinued: the walks of PrintableAll and Coprime. In plain Lean: the text of FnContinued as written parameters, in an order of steps, and what their map gives. The walk of Pieces. The walk of FnContinued: it returns true. -/
import Derived.Test.YtbklpdcipfhdjaaGreatDoorExt
import Derived.Test.YtbklpdcipfhdjaaGreatDoorPx
namespace Go.Proofs.YtbklpdcipfhdjaaGreatDoor.Co
open Go.RowKit Go.Maps Go.Sort Go.Lib Go.Proofs.YtbklpdcipfhdjaaGreatDoor.G Go.Proofs.YtbklpdcipfhdjaaGreatDoor.H Go.Proofs.YtbklpdcipfhdjaaGreatDoor.P Go.Proofs.YtbklpdcipfhdjaaGreatDoor.Q Go.Proofs.YtbklpdcipfhdjaaGreatDoor.T Go.Proofs.YtbklpdcipfhdjaaGreatDoor.W Go.Proofs.YtbklpdcipfhdjaaGreatDoor.X Go.Proofs.YtbklpdcipfhdjaaGreatDoor.Y Go.Proofs.YtbklpdcipfhdjaaGreatDoor.Pe Go.Proofs.YtbklpdcipfhdjaaGreatDoor.E Go.Proofs.YtbklpdcipfhdjaaGreatDoor.R Go.Proofs.YtbklpdcipfhdjaaGreatDoor.Cm Go.Proofs.YtbklpdcipfhdjaaGreatDoor.Pk Go.Proofs.YtbklpdcipfhdjaaGreatDoor.Pm Go.Proofs.YtbklpdcipfhdjaaGreatDoor.Gp Go.Proofs.YtbklpdcipfhdjaaGreatDoor.Rd Go.Proofs.YtbklpdcipfhdjaaGreatDoor.Pa Go.Proofs.YtbklpdcipfhdjaaGreatDoor.Srt Go.Proofs.YtbklpdcipfhdjaaGreatDoor.Gd Go.Proofs.YtbklpdcipfhdjaaGreatDoor.Uq Go.Proofs.YtbklpdcipfhdjaaGreatDoor.It Go.Proofs.YtbklpdcipfhdjaaGreatDoor.S Go.Proofs.YtbklpdcipfhdjaaGreatDoor.C Go.Proofs.YtbklpdcipfhdjaaGreatDoor.A Go.Proofs.YtbklpdcipfhdjaaGreatDoor.Og Go.Proofs.YtbklpdcipfhdjaaGreatDoor.Ec Go.Proofs.YtbklpdcipfhdjaaGreatDoor.Dc Go.Proofs.YtbklpdcipfhdjaaGreatDoor.Sl Go.Proofs.YtbklpdcipfhdjaaGreatDoor.F Go.Proofs.YtbklpdcipfhdjaaGreatDoor.Pn Go.Proofs.YtbklpdcipfhdjaaGreatDoor.Px Go.Proofs.YtbklpdcipfhdjaaGreatDoor.Es Go.Proofs.YtbklpdcipfhdjaaGreatDoor.J Go.Proofs.YtbklpdcipfhdjaaGreatDoor.Ext

set_option maxHeartbeats 1000000 in
set_option maxRecDepth 100000 in
theorem not_printable (s : ByteArray) (w : World) (hs : s.size ≤ 1099511627776) :
    Calls Tryz.prog 43 #[.string s] w fun e w' => e = .returned (.bool (!printB s)) ∧ w = w' := by
  have hp := printable_any s w hs
  go_enter Tryz.func43, Tryz.ntmps43
  cases hb : printB s with
  | true =>
    rw [hb] at hp
    go_wp2_with fail
    refine hp.mono ?_
    rintro e w1 ⟨rfl, rfl⟩
    go_wp2_with fail
    go_ret
    exact ⟨rfl, rfl⟩
  | false =>
    rw [hb] at hp
    go_wp2_with fail
    refine hp.mono ?_
    rintro e w1 ⟨rfl, rfl⟩
    go_wp2_with fail
    go_ret
    exact ⟨rfl, rfl⟩

set_option maxHeartbeats 1000000 in
set_option maxRecDepth 100000 in
theorem index_row (b off cap : Nat) (l : List ByteArray) (w : World) (hl : l.length ≤ 40) (hs : ∀ s ∈ l, s.size ≤ 1099511627776) (h : RowS w b off l) :
    Calls Tryz.prog 63 #[.slice (some ⟨b, off, none⟩) l.length cap, .func (.func 43) #[] #[]] w fun e w' => (∃ i : Int, e = .returned (.int .i64 i) ∧ (i < 0 → ∀ s ∈ l, printB s = true)) ∧ Below w.heap.size w w' := by
  have H := Lib.hid h
  have HS := Lib.hid hs
  clear h hs
  generalize hn : l.length = n at *
  have HN := Lib.hid hn
  clear hn
  go_enter Tryz.func63, Tryz.ntmps63
  go_wp2_with fail
  go_loopw [8] (fun i wr => ∃ k : Nat, k ≤ n ∧ i = .int .i64 k ∧ Hid (∀ y ∈ l.take k, printB y = true) ∧ Hid (Below w.heap.size w wr)) (fun i _ => n - (intOf i).toNat)
  case atStart => exact ⟨0, Nat.zero_le _, rfl, Lib.hid (by simp), Lib.hid (Below.refl _ _)⟩
  case round =>
    obtain ⟨k, hk, rfl, HA, HB⟩ := hrel
    by_cases hlt : k < n
    · obtain ⟨x, hx⟩ : ∃ x, l[k]? = some x := ⟨l[k]'(by rw [HN.out]; exact hlt), List.getElem?_eq_getElem _⟩
      have c0 := (H.out.below HB.out) k x hx
      have hp := not_printable x wr (HS.out x (List.mem_of_getElem? hx))
      cases hb : printB x with
      | true =>
        rw [hb] at hp
        have G := Lib.hid (all_snoc (p := fun y => printB y = true) hx HA.out hb)
        clear hx hb
        go_wp2_with fail
        refine hp.mono ?_
        rintro e w1 ⟨rfl, rfl⟩
        go_wp2_with fail
        exact ⟨⟨k + 1, by omega, by go_num, G, HB⟩, by simp [intOf]; omega⟩
      | false =>
        rw [hb] at hp
        clear hx hb
        go_wp2_with fail
        refine hp.mono ?_
        rintro e w1 ⟨rfl, rfl⟩
        go_wp2_with fail
        go_ret
        exact ⟨⟨k, rfl, fun h => absurd h (by omega)⟩, HB.out⟩
    · obtain rfl : k = n := by omega
      have HA2 : Hid (∀ x ∈ l, printB x = true) := Lib.hid (by
        have := HA.out
        rw [List.take_of_length_le (by rw [HN.out]; exact Nat.le_refl _)] at this
        exact this)
      go_wp2_with fail
      go_ret
      exact ⟨⟨-1, rfl, fun _ => HA2.out⟩, HB.out⟩

set_option maxHeartbeats 1000000 in
set_option maxRecDepth 100000 in
theorem contains_row (b off cap : Nat) (l : List ByteArray) (w : World) (hl : l.length ≤ 40) (hs : ∀ s ∈ l, s.size ≤ 1099511627776) (h : RowS w b off l) :
    Calls Tryz.prog 42 #[.slice (some ⟨b, off, none⟩) l.length cap, .func (.func 43) #[] #[]] w fun e w' => (∃ v, e = .returned (.bool v) ∧ (v = false → ∀ s ∈ l, printB s = true)) ∧ Below w.heap.size w w' := by
  have hi := index_row b off cap l w hl hs h
  have HI := Lib.hid hi
  clear hi h hs
  go_enter Tryz.func42, Tryz.ntmps42
  go_wp2_with fail
  refine HI.out.mono ?_
  rintro e w1 ⟨⟨i, rfl, hi⟩, hb⟩
  have HB := Lib.hid hb
  have HI2 := Lib.hid hi
  clear hi hb
  by_cases h0 : (0 : Int) ≤ i
  · have b1 : decide ((0 : Int) ≤ i) = true := decide_eq_true h0
    go_wp2_with fail
    go_ret
    exact ⟨⟨true, rfl, by intro h; cases h⟩, HB.out⟩
  · have b1 : decide ((0 : Int) ≤ i) = false := decide_eq_false h0
    have h1 : i < 0 := by omega
    go_wp2_with fail
    go_ret
    exact ⟨⟨false, rfl, fun _ => HI2.out h1⟩, HB.out⟩

/-- The texts are printable and at most 40. -/
def PrintP (l : List ByteArray) : Prop := l.length ≤ 40 ∧ ∀ s ∈ l, printB s = true

set_option maxHeartbeats 1000000 in
set_option maxRecDepth 100000 in
theorem printAll_row (b off cap : Nat) (l : List ByteArray) (w : World) (hl : l.length ≤ 2147483647) (hs : ∀ s ∈ l, s.size ≤ 1099511627776) (h : RowS w b off l) :
    Calls Tryz.prog 24 #[.slice (some ⟨b, off, none⟩) l.length cap] w fun e w' => (∃ v, e = .returned (.bool v) ∧ (v = true → PrintP l)) ∧ Below w.heap.size w w' := by
  by_cases h40 : l.length ≤ 40
  · have HC := Lib.hid (contains_row b off cap l w h40 hs h)
    have HL : Hid ((∀ s ∈ l, printB s = true) → PrintP l) := Lib.hid fun h => ⟨h40, h⟩
    have b1 : decide ((l.length : Int) ≤ 40) = true := decide_eq_true (by omega)
    clear h hs
    generalize hn : l.length = n at *
    clear hn
    go_enter Tryz.func24, Tryz.ntmps24
    go_wp2_with fail
    refine HC.out.mono ?_
    rintro e w1 ⟨⟨v, rfl, hv⟩, hb⟩
    have HB := Lib.hid hb
    have HV := Lib.hid hv
    clear hv hb
    cases v with
    | true =>
      go_wp2_with fail
      go_ret
      exact ⟨⟨false, rfl, by intro h; cases h⟩, HB.out⟩
    | false =>
      go_wp2_with fail
      go_ret
      exact ⟨⟨true, rfl, fun _ => HL.out (by simpa using HV.out)⟩, HB.out⟩
  · have b1 : decide ((l.length : Int) ≤ 40) = false := decide_eq_false (by omega)
    clear h hs
    generalize hn : l.length = n at *
    clear hn
    go_enter Tryz.func24, Tryz.ntmps24
    go_wp2_with fail
    go_ret
    exact ⟨⟨false, rfl, by intro h; cases h⟩, Below.refl _ _⟩

/-- A step that has no factor in common with n. -/
def CopP (n : Nat) (step : Int) : Prop := ∃ s : Nat, step = s ∧ 1 ≤ s ∧ s ≤ 40 ∧ Nat.gcd n s = 1

set_option maxHeartbeats 1000000 in
set_option maxRecDepth 100000 in
theorem coprime_any (n : Nat) (step : Int) (hn : 1 ≤ n) (hn2 : n ≤ 40) (w : World) :
    Calls Tryz.prog 25 #[.int .i64 n, .int .i64 step] w fun e w' => (∃ v, e = .returned (.bool v) ∧ (v = true → CopP n step)) ∧ Below w.heap.size w w' := by
  have b1 : decide ((n : Int) < 1) = false := decide_eq_false (by omega)
  have b3 : decide ((40 : Int) < n) = false := decide_eq_false (by omega)
  go_enter Tryz.func25, Tryz.ntmps25
  by_cases h1 : step < 1
  · have b2 : decide (step < 1) = true := decide_eq_true h1
    go_wp2_with fail
    go_ret
    exact ⟨⟨false, rfl, by intro h; cases h⟩, Below.refl _ _⟩
  have b2 : decide (step < 1) = false := decide_eq_false h1
  by_cases h4 : 40 < step
  · have b4 : decide (40 < step) = true := decide_eq_true h4
    go_wp2_with fail
    go_ret
    exact ⟨.inl rfl, Below.refl _ _⟩
  have b4 : decide (40 < step) = false := decide_eq_false h4
  obtain ⟨s, hs⟩ : ∃ s : Nat, step = s := ⟨step.toNat, by omega⟩
  subst hs
  have hs1 : 1 ≤ s := by omega
  have hs2 : s ≤ 40 := by omega
  go_wp2_with fail
  go_loopw [0, 1] (fun a b wr => ∃ x y : Nat, x ≤ 40 ∧ y ≤ 40 ∧ a = .int .i64 x ∧ b = .int .i64 y ∧ Hid (Nat.gcd x y = Nat.gcd n s) ∧ Hid (Below w.heap.size w wr)) (fun _ b _ => (intOf b).toNat)
  case atStart => exact ⟨n, s, hn2, hs2, rfl, rfl, Lib.hid rfl, Lib.hid (Below.refl _ _)⟩
  case round =>
    obtain ⟨x, y, hx, hy, rfl, rfl, HG, HB⟩ := hrel
    by_cases h0 : 0 < y
    · have b5 : decide ((0 : Int) < y) = true := decide_eq_true (by omega)
      obtain ⟨z, hz⟩ : ∃ z, z = x % y := ⟨_, rfl⟩
      have hzy : z < y := by rw [hz]; exact Nat.mod_lt _ h0
      have e2 : (x : Int).tmod y = (z : Int) := by rw [Int.tmod_eq_emod_of_nonneg (by omega), hz]; rfl
      have G : Hid (Nat.gcd y z = Nat.gcd n s) := Lib.hid (by rw [← HG.out, hz, Nat.gcd_comm x y, Nat.gcd_rec y x, Nat.gcd_comm])
      have hy0 : (y : Int) ≠ 0 := by omega
      clear hz
      go_wp2_with fail
      go_quiet (fail)
      go_wp2_with fail
      exact ⟨⟨y, z, hy, by omega, by go_num, by go_num, G, Lib.hid ⟨HB.out.os, HB.out.tape, HB.out.output, HB.out.size, HB.out.block⟩⟩, by simp [intOf]; omega⟩
    · obtain rfl : y = 0 := by omega
      have hx1 := HG.out
      rw [Nat.gcd_zero_right] at hx1
      have HX1 := Lib.hid hx1
      clear hx1
      by_cases hone : x = 1
      · have b6 : ((x : Int) == 1) = true := by rw [hone]; rfl
        have G : Hid (CopP n s) := Lib.hid ⟨s, rfl, hs1, hs2, by rw [← HX1.out, hone]⟩
        go_wp2_with fail
        go_ret
        exact ⟨⟨true, rfl, fun _ => G.out⟩, HB.out⟩
      · have b6 : ((x : Int) == 1) = false := by rw [beq_eq_false_iff_ne]; omega
        go_wp2_with fail
        go_ret
        exact ⟨⟨false, rfl, by intro h; cases h⟩, HB.out⟩
end Go.Proofs.YtbklpdcipfhdjaaGreatDoor.Co

namespace Go.Proofs.YtbklpdcipfhdjaaGreatDoor.Pq
open Go.RowKit Go.Maps Go.Sort Go.Lib Go.Proofs.YtbklpdcipfhdjaaGreatDoor.G Go.Proofs.YtbklpdcipfhdjaaGreatDoor.H Go.Proofs.YtbklpdcipfhdjaaGreatDoor.P Go.Proofs.YtbklpdcipfhdjaaGreatDoor.Q Go.Proofs.YtbklpdcipfhdjaaGreatDoor.T Go.Proofs.YtbklpdcipfhdjaaGreatDoor.W Go.Proofs.YtbklpdcipfhdjaaGreatDoor.X Go.Proofs.YtbklpdcipfhdjaaGreatDoor.Y Go.Proofs.YtbklpdcipfhdjaaGreatDoor.Pe Go.Proofs.YtbklpdcipfhdjaaGreatDoor.E Go.Proofs.YtbklpdcipfhdjaaGreatDoor.R Go.Proofs.YtbklpdcipfhdjaaGreatDoor.Cm Go.Proofs.YtbklpdcipfhdjaaGreatDoor.Pk Go.Proofs.YtbklpdcipfhdjaaGreatDoor.Pm Go.Proofs.YtbklpdcipfhdjaaGreatDoor.Gp Go.Proofs.YtbklpdcipfhdjaaGreatDoor.Rd Go.Proofs.YtbklpdcipfhdjaaGreatDoor.Pa Go.Proofs.YtbklpdcipfhdjaaGreatDoor.Srt Go.Proofs.YtbklpdcipfhdjaaGreatDoor.Gd Go.Proofs.YtbklpdcipfhdjaaGreatDoor.Uq Go.Proofs.YtbklpdcipfhdjaaGreatDoor.It Go.Proofs.YtbklpdcipfhdjaaGreatDoor.S Go.Proofs.YtbklpdcipfhdjaaGreatDoor.C Go.Proofs.YtbklpdcipfhdjaaGreatDoor.A Go.Proofs.YtbklpdcipfhdjaaGreatDoor.Og Go.Proofs.YtbklpdcipfhdjaaGreatDoor.Ec Go.Proofs.YtbklpdcipfhdjaaGreatDoor.Dc Go.Proofs.YtbklpdcipfhdjaaGreatDoor.Sl Go.Proofs.YtbklpdcipfhdjaaGreatDoor.F Go.Proofs.YtbklpdcipfhdjaaGreatDoor.Pn Go.Proofs.YtbklpdcipfhdjaaGreatDoor.Px

/-- The number of a piece. -/
def sig (f s n i : Nat) : Nat := (f + i * s) % n
theorem sig_lt {f s n i : Nat} (h : 0 < n) : sig f s n i < n := Nat.mod_lt _ h
theorem sig_inj {f s n i j : Nat} (hg : Nat.gcd n s = 1) (hi : i < n) (hj : j < n) (h : sig f s n i = sig f s n j) : i = j := by
  have key : ∀ i j, i ≤ j → j < n → sig f s n i = sig f s n j → i = j := by
    intro i j hij hj h
    have h1 : (f + j * s - (f + i * s)) % n = 0 := Nat.sub_mod_eq_zero_of_mod_eq h.symm
    have h2 : f + j * s - (f + i * s) = (j - i) * s := by rw [Nat.sub_mul]; omega
    rw [h2] at h1
    have h3 : n ∣ (j - i) * s := Nat.dvd_of_mod_eq_zero h1
    have h4 : n ∣ j - i := Nat.Coprime.dvd_of_dvd_mul_right hg h3
    have h5 : j - i = 0 := Nat.eq_zero_of_dvd_of_lt h4 (by omega)
    omega
  rcases Nat.le_total i j with h1 | h1
  · exact key i j h1 hj h
  · exact (key j i h1 hi h.symm).symm
theorem sig_surj {f s n k : Nat} (hg : Nat.gcd n s = 1) (hk : k < n) : ∃ i, i < n ∧ sig f s n i = k := by
  rcases Classical.em (∃ i, i < n ∧ sig f s n i = k) with h | h
  · exact h
  · exfalso
    have hnd : ((List.range n).map (sig f s n)).Nodup := by
      refine List.pairwise_map.2 (List.Pairwise.imp_of_mem ?_ List.nodup_range)
      intro a b ha hb hab e
      exact hab (sig_inj hg (List.mem_range.1 ha) (List.mem_range.1 hb) e)
    have hnk : (k :: (List.range n).map (sig f s n)).Nodup := by
      refine List.nodup_cons.2 ⟨fun hm => ?_, hnd⟩
      obtain ⟨i, hi, e⟩ := List.mem_map.1 hm
      exact h ⟨i, List.mem_range.1 hi, e⟩
    have hle := Pk.len_le _ (List.range n) hnk (fun a ha => by
      rcases List.mem_cons.1 ha with rfl | ha
      · exact List.mem_range.2 hk
      · obtain ⟨i, _, rfl⟩ := List.mem_map.1 ha
        exact List.mem_range.2 (sig_lt (by omega)))
    simp at hle
    omega

/-- The piece of number k. -/
def pcW (name : ByteArray) (k : Nat) (x : ByteArray) : Wn := ⟨⟨#[]⟩, ⟨#[32]⟩, name ++ ⟨#[42]⟩ ++ num k, x, true⟩
/-- The first m pieces, in an order of steps. -/
def pcs (name : ByteArray) (l : List ByteArray) (f s m : Nat) : List Wn := (List.range m).map fun i => pcW name (sig f s l.length i) (l.getD (sig f s l.length i) ⟨#[]⟩)
theorem pcs_snoc (name : ByteArray) (l : List ByteArray) (f s m : Nat) : pcs name l f s (m + 1) = pcs name l f s m ++ [pcW name (sig f s l.length m) (l.getD (sig f s l.length m) ⟨#[]⟩)] := by
  unfold pcs
  rw [List.range_succ, List.map_append]
  rfl
theorem pcs_len (name : ByteArray) (l : List ByteArray) (f s m : Nat) : (pcs name l f s m).length = m := by simp [pcs]
theorem pcs_mem {name : ByteArray} {l : List ByteArray} {f s : Nat} {x : Wn} (h : x ∈ pcs name l f s l.length) : ∃ k, k < l.length ∧ x = pcW name k (l.getD k ⟨#[]⟩) := by
  obtain ⟨i, hi, rfl⟩ := List.mem_map.1 h
  have := List.mem_range.1 hi
  exact ⟨_, sig_lt (by omega), rfl⟩
theorem pc_text (name : ByteArray) (k : Nat) (x : ByteArray) : Wn.text (pcW name k x) = [59, 32] ++ bl name ++ [42] ++ bl (num k) ++ [61] ++ quoteL (bl x) := by
  unfold Wn.text Wn.val pcW
  simp [bl]
theorem getD_mem {l : List ByteArray} {k : Nat} (h : k < l.length) : l.getD k ⟨#[]⟩ ∈ l := by
  rw [List.getD_eq_getElem?_getD, List.getElem?_eq_getElem h]
  exact List.getElem_mem h
theorem pc_name {name x : ByteArray} {k : Nat} (h : k < 100) : lower (pcW name k x).name = kn (lower name) k := by
  show lower (name ++ ⟨#[42]⟩ ++ num k) = _
  rw [lower_append, lower_append, lower_star, num_low k h]
theorem kn_inj {b : ByteArray} {n m : Nat} (h : n < 100) (k : m < 100) (e : kn b n = kn b m) : n = m := num_inj n m h k (key_split e)
theorem num_pos (n : Nat) : 0 < (num n).size := by unfold num; split <;> simp [ByteArray.size]
theorem kn_ne_k1 {b : ByteArray} {n : Nat} : kn b n ≠ k1 b := by
  intro e
  have h := congrArg ByteArray.size e
  have := num_pos n
  simp only [app_size] at h
  omega
theorem pc_nm {name : ByteArray} {l : List ByteArray} {f s : Nat} (hn : isTok name = true) (hl : l.length ≤ 40) (hp : ∀ x ∈ l, printB x = true) (hg : Nat.gcd l.length s = 1) : Nm (pcs name l f s l.length) := by
  refine ⟨fun x hx => ?_, ?_⟩
  · obtain ⟨k, hk, rfl⟩ := pcs_mem hx
    exact ⟨rfl, rfl, hp _ (getD_mem hk), .inl rfl, tok_append (tok_append hn tok_star) (fun c hc => (num_tok k (by omega) c hc).1)⟩
  · unfold pcs
    rw [List.map_map]
    refine List.pairwise_map.2 (List.Pairwise.imp_of_mem ?_ List.nodup_range)
    intro a b ha hb hab e
    have ha := List.mem_range.1 ha
    have hb := List.mem_range.1 hb
    simp only [Function.comp] at e
    have h1 : sig f s l.length a < l.length := sig_lt (by omega)
    have h2 : sig f s l.length b < l.length := sig_lt (by omega)
    rw [pc_name (by omega), pc_name (by omega)] at e
    exact hab (sig_inj hg ha hb (kn_inj (by omega) (by omega) e))
theorem pc_star {name : ByteArray} {l : List ByteArray} {f s : Nat} (hn : (42 : UInt8) ∉ bl name) : ∀ x ∈ pcs name l f s l.length, star x = true ∧ baseL x = lower name := by
  intro x hx
  obtain ⟨k, _, rfl⟩ := pcs_mem hx
  exact star_of (r := num k) rfl hn
theorem pc_st {name : ByteArray} {l : List ByteArray} {f s : Nat} (h0 : l ≠ []) (hl : l.length ≤ 40) (hg : Nat.gcd l.length s = 1) (hc : (cat l).length ≤ 1099511627776) : St ((pcs name l f s l.length).map pairL) (lower name) (cat l) := by
  have hp : ∀ p ∈ (pcs name l f s l.length).map pairL, ∃ k, k < l.length ∧ p.1 = kn (lower name) k := by
    intro p hp
    obtain ⟨x, hx, rfl⟩ := List.mem_map.1 hp
    obtain ⟨k, hk, rfl⟩ := pcs_mem hx
    exact ⟨k, hk, pc_name (by omega)⟩
  refine .pieces (l.map bl) ⟨fun p h => ?_, fun n v hv => ?_, fun p h => ?_, fun p h => ?_, ?_, ?_, ?_⟩ (flat_cat l).symm
  · obtain ⟨k, _, e⟩ := hp p h
    rw [e]; exact kn_ne_k1
  · rw [List.getElem?_map] at hv
    obtain ⟨x, h1, rfl⟩ := Option.map_eq_some_iff.1 hv
    have hn : n < l.length := (List.getElem?_eq_some_iff.1 h1).1
    obtain ⟨i, hi, e⟩ := sig_surj (f := f) hg hn
    refine .simple ?_
    rw [tx_bl]
    refine List.mem_map.2 ⟨_, List.mem_map.2 ⟨i, List.mem_range.2 hi, rfl⟩, ?_⟩
    rw [e]
    have h2 : l.getD n ⟨#[]⟩ = x := by rw [List.getD_eq_getElem?_getD, h1]; rfl
    rw [h2]
    show (lower (pcW name n x).name, x) = _
    rw [pc_name (by omega)]
  · obtain ⟨k, hk, e⟩ := hp p h
    rw [e, List.length_map]
    intro e2
    have := kn_inj (by omega) (by omega) e2
    omega
  · obtain ⟨k, hk, e⟩ := hp p h
    rw [e, List.length_map]
    exact fun e2 => ke_ne_kn (by omega) e2.symm
  · rw [List.length_map]; exact List.length_pos_iff.2 h0
  · rw [List.length_map]; omega
  · rw [flat_cat]; exact hc
theorem pc_texts_le {name : ByteArray} {l : List ByteArray} {f s : Nat} (hn : name.size ≤ 16777216) (hs : ∀ x ∈ l, x.size ≤ 16777216) (h0 : 0 < l.length) (m : Nat) : (texts (pcs name l f s m)).length ≤ m * 50331700 := by
  induction m with
  | zero => simp [pcs, texts]
  | succ m ih =>
    have h1 : (l.getD (sig f s l.length m) ⟨#[]⟩).size ≤ 16777216 := hs _ (getD_mem (sig_lt h0))
    have h2 := num_size (sig f s l.length m)
    have h3 := Z.qb_le (bl (l.getD (sig f s l.length m) ⟨#[]⟩))
    have h4 := sz (l.getD (sig f s l.length m) ⟨#[]⟩)
    have h5 := sz (num (sig f s l.length m))
    have h6 := sz name
    rw [pcs_snoc]
    have e : ∀ (a : List Wn) (x : Wn), (texts (a ++ [x])).length = (texts a).length + (Wn.text x).length := by intro a x; simp [texts]
    rw [e, pc_text]
    unfold quoteL
    simp only [List.length_append, List.length_cons, List.length_nil]
    omega

/-- Parse at the text of FnContinued. -/
theorem parse_pcs (e0 e1 : Value) (t name : ByteArray) (l : List ByteArray) (f s : Nat) (W : World) (hE : Env e0 e1 W) (ht : t.size ≤ 16777216) (hT : isType t = true) (hns : name.size ≤ 16777216) (hn : isTok name = true) (h42 : (42 : UInt8) ∉ bl name) (h0 : l ≠ []) (hl : l.length ≤ 40) (hs : ∀ x ∈ l, x.size ≤ 16777216) (hp : ∀ x ∈ l, printB x = true) (hg : Nat.gcd l.length s = 1) :
    Calls Tryz.prog 14 #[.string (t ++ tx (texts (pcs name l f s l.length)))] W fun e w' => ∃ v, e = .returned (.tuple #[.string (lower t), v, .int .i64 0]) ∧ Pv v [(lower name, tx (cat l))] w' ∧ Below W.heap.size W w' := by
  have hc := cat_le hs
  have h0l : 0 < l.length := List.length_pos_iff.2 h0
  have htl := pc_texts_le (f := f) (s := s) hns hs h0l l.length
  have hgr : groups (pcs name l f s l.length) = [(lower name, (pcs name l f s l.length).map pairL)] := groups_one (by
    intro e
    have := congrArg List.length e
    rw [pcs_len] at this
    simp at this
    exact h0 (List.eq_nil_of_length_eq_zero (by simpa using this))) (pc_star h42)
  have hpl : plains (pcs name l f s l.length) = [] := plains_none fun x hx => (pc_star h42 x hx).1
  have hsz : (t ++ tx (texts (pcs name l f s l.length))).size ≤ 1099511627776 := by rw [app_size, size_tx]; omega
  have h := parse_stars e0 e1 (t ++ tx (texts (pcs name l f s l.length))) t (pcs name l f s l.length) (fun _ => cat l) W hE hsz (by rw [bl_app, bl_tx]) hT (pc_nm hn hl hp hg) (by rw [pcs_len]; omega)
    (by rw [hgr]; intro g hg2; simp at hg2; subst hg2; exact pc_st h0 hl hg (by omega)) (by rw [hpl]; simp) (by rw [hgr]; intro g hg2; simp at hg2; subst hg2; simp only; rw [lower_size]; omega) (by rw [hgr, hpl]; simp)
  rw [hgr, hpl] at h
  exact h
end Go.Proofs.YtbklpdcipfhdjaaGreatDoor.Pq

namespace Go.Proofs.YtbklpdcipfhdjaaGreatDoor.Pw
open Go.RowKit Go.Maps Go.Sort Go.Lib Go.Proofs.YtbklpdcipfhdjaaGreatDoor.G Go.Proofs.YtbklpdcipfhdjaaGreatDoor.H Go.Proofs.YtbklpdcipfhdjaaGreatDoor.P Go.Proofs.YtbklpdcipfhdjaaGreatDoor.Q Go.Proofs.YtbklpdcipfhdjaaGreatDoor.T Go.Proofs.YtbklpdcipfhdjaaGreatDoor.W Go.Proofs.YtbklpdcipfhdjaaGreatDoor.X Go.Proofs.YtbklpdcipfhdjaaGreatDoor.Y Go.Proofs.YtbklpdcipfhdjaaGreatDoor.Pe Go.Proofs.YtbklpdcipfhdjaaGreatDoor.E Go.Proofs.YtbklpdcipfhdjaaGreatDoor.R Go.Proofs.YtbklpdcipfhdjaaGreatDoor.Cm Go.Proofs.YtbklpdcipfhdjaaGreatDoor.Pk Go.Proofs.YtbklpdcipfhdjaaGreatDoor.Pm Go.Proofs.YtbklpdcipfhdjaaGreatDoor.Gp Go.Proofs.YtbklpdcipfhdjaaGreatDoor.Rd Go.Proofs.YtbklpdcipfhdjaaGreatDoor.Pa Go.Proofs.YtbklpdcipfhdjaaGreatDoor.Srt Go.Proofs.YtbklpdcipfhdjaaGreatDoor.Gd Go.Proofs.YtbklpdcipfhdjaaGreatDoor.Uq Go.Proofs.YtbklpdcipfhdjaaGreatDoor.It Go.Proofs.YtbklpdcipfhdjaaGreatDoor.S Go.Proofs.YtbklpdcipfhdjaaGreatDoor.C Go.Proofs.YtbklpdcipfhdjaaGreatDoor.A Go.Proofs.YtbklpdcipfhdjaaGreatDoor.Og Go.Proofs.YtbklpdcipfhdjaaGreatDoor.Ec Go.Proofs.YtbklpdcipfhdjaaGreatDoor.Dc Go.Proofs.YtbklpdcipfhdjaaGreatDoor.Sl Go.Proofs.YtbklpdcipfhdjaaGreatDoor.F Go.Proofs.YtbklpdcipfhdjaaGreatDoor.Pn Go.Proofs.YtbklpdcipfhdjaaGreatDoor.Px Go.Proofs.YtbklpdcipfhdjaaGreatDoor.Es Go.Proofs.YtbklpdcipfhdjaaGreatDoor.J Go.Proofs.YtbklpdcipfhdjaaGreatDoor.Ext Go.Proofs.YtbklpdcipfhdjaaGreatDoor.Pq Go.Proofs.YtbklpdcipfhdjaaGreatDoor.Co

theorem inv_of {wr w' : World} {a : Addr} {v : Value} (h : wr.cell? a = some v) (hb : Below wr.heap.size wr w') : w'.cell? a = some v ∧ Below wr.heap.size wr w' := ⟨(hb.cell (cell_lt h)).trans h, hb⟩
theorem below_alloc2 {w2 w : World} (h : Below w2.heap.size w2 w) (o : Obj) : Below w2.heap.size w2 (w.alloc o) := h.alloc h.size o

set_option maxHeartbeats 1000000 in
set_option maxRecDepth 100000 in
theorem pieces_row (name : ByteArray) (b off cap f s : Nat) (l : List ByteArray) (w : World) (hns : name.size ≤ 16777216) (h0 : 0 < l.length) (hl : l.length ≤ 40) (hs : ∀ x ∈ l, x.size ≤ 16777216) (hf : f < l.length) (hs40 : s ≤ 40) (h : RowS w b off l) :
    Calls Tryz.prog 26 #[.string name, .slice (some ⟨b, off, none⟩) l.length cap, .int .i64 f, .int .i64 s] w fun e w' => e = .returned (.string (tx (texts (pcs name l f s l.length)))) ∧ Below w.heap.size w w' := by
  have H := Lib.hid h
  have HS := Lib.hid hs
  have HT : Hid (∀ m, m ≤ 40 → (texts (pcs name l f s m)).length ≤ 2013268000) := Lib.hid fun m hm => by have := pc_texts_le (f := f) (s := s) hns hs h0 m; omega
  clear h hs
  generalize hn : l.length = n at *
  have HN := Lib.hid hn
  clear hn
  go_enter Tryz.func26, Tryz.ntmps26
  go_wp2_with fail
  go_loopw [9, 14] (fun v i wr => ∃ k : Nat, ∃ u : ByteArray, k ≤ n ∧ i = .int .i64 k ∧ v = .string u ∧ Hid (bl u = texts (pcs name l f s k)) ∧ Hid (Below w.heap.size w wr)) (fun _ i _ => n - (intOf i).toNat)
  case atStart => exact ⟨0, ⟨#[]⟩, Nat.zero_le _, rfl, rfl, Lib.hid rfl, Lib.hid (Below.refl _ _)⟩
  case round =>
    obtain ⟨i, u, hi, rfl, rfl, HU, HB⟩ := hrel
    have hus : u.size ≤ 2013268000 := by rw [sz, HU.out]; exact HT.out i (by omega)
    by_cases hlt : i < n
    · obtain ⟨m, hm⟩ : ∃ m, m = i * s := ⟨_, rfl⟩
      have hm2 : m ≤ 1600 := by rw [hm]; exact Nat.mul_le_mul (show i ≤ 40 by omega) hs40
      obtain ⟨k, hk⟩ : ∃ k, k = sig f s n i := ⟨_, rfl⟩
      have hkn : k < n := by rw [hk]; exact sig_lt h0
      have e1 : IntKind.i64.wrap ((i : Int) * (s : Int)) = (m : Int) := by rw [← Int.natCast_mul, ← hm, IntKind.wrap_i64]; omega
      have e2 : IntKind.i64.wrap ((f : Int) + (m : Int)) = ((f + m : Nat) : Int) := by rw [IntKind.wrap_i64]; omega
      have e3 : ((f + m : Nat) : Int).tmod (n : Int) = (k : Int) := by
        rw [Int.tmod_eq_emod_of_nonneg (by omega), hk, hm]; rfl
      obtain ⟨p, hp⟩ : ∃ p, p = f + m := ⟨_, rfl⟩
      rw [← hp] at e2 e3
      obtain ⟨x, hx⟩ : ∃ x, l[k]? = some x := ⟨l[k]'(by rw [HN.out]; exact hkn), List.getElem?_eq_getElem _⟩
      have c0 := (H.out.below HB.out) k x hx
      have hxs := HS.out x (List.mem_of_getElem? hx)
      have hgd : l.getD k ⟨#[]⟩ = x := by rw [List.getD_eq_getElem?_getD, hx]; rfl
      have hnum : Hid (∀ W, Below wr.heap.size wr W → Calls Tryz.prog 20 #[.int .i64 k] W fun e w' => e = .returned (.string (num k)) ∧ Below wr.heap.size wr w') := Lib.hid fun W hW => (number_any k (by omega) W).mono fun e w' h => ⟨h.1, chain hW h.2⟩
      have hquo : Hid (∀ W, Below wr.heap.size wr W → Calls Tryz.prog 38 #[.string x] W fun e w' => e = .returned (.string (tx (quoteL (bl x)))) ∧ Below wr.heap.size wr w') := Lib.hid fun W hW => (quote_any x W (by omega)).mono fun e w' h => ⟨h.1, chain hW h.2⟩
      have hnz := num_size k
      have hqs : (tx (quoteL (bl x))).size ≤ 33554434 := by
        rw [size_tx]; unfold quoteL; have := Z.qb_le (bl x); have h4 := sz x
        simp only [List.length_append, List.length_cons, List.length_nil]; omega
      have G : Hid (bl (u ++ (⟨#[59, 32]⟩ ++ name ++ ⟨#[42]⟩ ++ num k ++ ⟨#[61]⟩ ++ tx (quoteL (bl x)))) = texts (pcs name l f s (i + 1))) := Lib.hid (by
        rw [pcs_snoc, HN.out, ← hk, hgd]
        simp only [texts, List.flatMap_append, List.flatMap_cons, List.flatMap_nil, List.append_nil, pc_text]
        simp only [bl_app, HU.out, bl_tx, texts])
      have hn0 : (n : Int) ≠ 0 := by omega
      have C0 := Lib.hid c0
      generalize tx (quoteL (bl x)) = qx at *
      generalize num k = nk at *
      clear hm hk hp hx hgd c0
      go_wp2_with fail
      go_region_held (fun w' => w'.cell? ⟨b, off + k, none⟩ = some (.string x) ∧ Below wr.heap.size wr w')
        (first | (refine inv_of C0.out ?_; (repeat' (first | assumption | exact Below.refl _ _ | apply Below.drew | apply below_alloc2))))
        (first
          | (go_at_call 20; refine (hnum.out _ (by (repeat' (first | assumption | exact Below.refl _ _ | apply Below.drew | apply below_alloc2)))).mono ?_; rintro e w7 ⟨rfl, hb7⟩)
          | (go_at_call 38; refine (hquo.out _ (by (repeat' (first | assumption | exact Below.refl _ _ | apply Below.drew | apply below_alloc2)))).mono ?_; rintro e w8 ⟨rfl, hb8⟩))
      all_goals
        have h7 := chain HB.out (show Below wr.heap.size wr w7 from ⟨hb7.os, hb7.tape, hb7.output, hb7.size, hb7.block⟩)
        have h8 := chain HB.out (show Below wr.heap.size wr w8 from ⟨hb8.os, hb8.tape, hb8.output, hb8.size, hb8.block⟩)
        have H7 := Lib.hid h7
        have H8 := Lib.hid h8
        clear h7 h8 hb7 hb8
        go_wp2_with fail
        first
          | exact ⟨⟨i + 1, _, by omega, by go_num, rfl, G, H8⟩, by simp [intOf]; omega⟩
          | exact ⟨⟨i + 1, _, by omega, by go_num, rfl, G, H7⟩, by simp [intOf]; omega⟩
    · obtain rfl : i = n := by omega
      have G : Hid (Value.string u = .string (tx (texts (pcs name l f s i)))) := Lib.hid (by rw [← HU.out]; rfl)
      go_wp2_with fail
      go_ret
      exact ⟨by rw [← G.out]; rfl, HB.out⟩
end Go.Proofs.YtbklpdcipfhdjaaGreatDoor.Pw

namespace Go.Proofs.YtbklpdcipfhdjaaGreatDoor.Cont
open Go.RowKit Go.Maps Go.Sort Go.Lib Go.Proofs.YtbklpdcipfhdjaaGreatDoor.G Go.Proofs.YtbklpdcipfhdjaaGreatDoor.H Go.Proofs.YtbklpdcipfhdjaaGreatDoor.P Go.Proofs.YtbklpdcipfhdjaaGreatDoor.Q Go.Proofs.YtbklpdcipfhdjaaGreatDoor.T Go.Proofs.YtbklpdcipfhdjaaGreatDoor.W Go.Proofs.YtbklpdcipfhdjaaGreatDoor.X Go.Proofs.YtbklpdcipfhdjaaGreatDoor.Y Go.Proofs.YtbklpdcipfhdjaaGreatDoor.Pe Go.Proofs.YtbklpdcipfhdjaaGreatDoor.E Go.Proofs.YtbklpdcipfhdjaaGreatDoor.R Go.Proofs.YtbklpdcipfhdjaaGreatDoor.Cm Go.Proofs.YtbklpdcipfhdjaaGreatDoor.Pk Go.Proofs.YtbklpdcipfhdjaaGreatDoor.Pm Go.Proofs.YtbklpdcipfhdjaaGreatDoor.Gp Go.Proofs.YtbklpdcipfhdjaaGreatDoor.Rd Go.Proofs.YtbklpdcipfhdjaaGreatDoor.Pa Go.Proofs.YtbklpdcipfhdjaaGreatDoor.Srt Go.Proofs.YtbklpdcipfhdjaaGreatDoor.Gd Go.Proofs.YtbklpdcipfhdjaaGreatDoor.Uq Go.Proofs.YtbklpdcipfhdjaaGreatDoor.It Go.Proofs.YtbklpdcipfhdjaaGreatDoor.S Go.Proofs.YtbklpdcipfhdjaaGreatDoor.C Go.Proofs.YtbklpdcipfhdjaaGreatDoor.A Go.Proofs.YtbklpdcipfhdjaaGreatDoor.Og Go.Proofs.YtbklpdcipfhdjaaGreatDoor.Ec Go.Proofs.YtbklpdcipfhdjaaGreatDoor.Dc Go.Proofs.YtbklpdcipfhdjaaGreatDoor.Sl Go.Proofs.YtbklpdcipfhdjaaGreatDoor.F Go.Proofs.YtbklpdcipfhdjaaGreatDoor.Pn Go.Proofs.YtbklpdcipfhdjaaGreatDoor.Px Go.Proofs.YtbklpdcipfhdjaaGreatDoor.Es Go.Proofs.YtbklpdcipfhdjaaGreatDoor.J Go.Proofs.YtbklpdcipfhdjaaGreatDoor.Ext Go.Proofs.YtbklpdcipfhdjaaGreatDoor.Pq Go.Proofs.YtbklpdcipfhdjaaGreatDoor.Co Go.Proofs.YtbklpdcipfhdjaaGreatDoor.Pw

set_option maxHeartbeats 1000000 in
set_option maxRecDepth 100000 in
theorem cont_any (e0 e1 : Value) (t name : ByteArray) (ao : Option Addr) (cap : Nat) (l : List ByteArray) (first step : Int) (w : World) (hE : Env e0 e1 w) (hL : Sv ao l w) :
    Calls Tryz.prog 6 #[.string t, .string name, .slice ao l.length cap, .int .i64 first, .int .i64 step] w fun e w' => e = .returned (.bool true) ∧ Below w.heap.size w w' := by
  have HL := Lib.hid hL
  have HE := Lib.hid hE
  have hfits := fits7_sv (cap := cap) hL
  clear hL hE
  go_enter Tryz.func6, Tryz.ntmps6
  by_cases ht1 : (2147483647 : Int) < t.size
  · have b1 : decide ((2147483647 : Int) < t.size) = true := decide_eq_true ht1
    go_wp2_with fail
    go_ret
    exact ⟨rfl, Below.refl _ _⟩
  have b1 : decide ((2147483647 : Int) < t.size) = false := decide_eq_false ht1
  by_cases hn1 : (2147483647 : Int) < name.size
  · have b2 : decide ((2147483647 : Int) < name.size) = true := decide_eq_true hn1
    go_wp2_with fail
    go_ret
    exact ⟨rfl, Below.refl _ _⟩
  have b2 : decide ((2147483647 : Int) < name.size) = false := decide_eq_false hn1
  go_wp2_with fail
  refine hfits.mono ?_
  clear hfits
  rintro e w1 ⟨⟨v, rfl, hv⟩, g1⟩
  have HB1 := Lib.hid g1
  clear g1
  cases v with
  | false =>
    go_wp2_with fail
    go_ret
    exact ⟨rfl, HB1.out⟩
  | true =>
    have hl1 : l.length ≤ 2147483647 := hv rfl
    clear hv
    have hbr := brief_sv (cap := cap) (HL.out.below HB1.out) hl1
    by_cases ht2 : (16777216 : Int) < t.size
    · have b3 : decide ((16777216 : Int) < t.size) = true := decide_eq_true ht2
      go_wp2_with fail
      go_ret
      exact ⟨rfl, HB1.out⟩
    have b3 : decide ((16777216 : Int) < t.size) = false := decide_eq_false ht2
    by_cases hn2 : (16777216 : Int) < name.size
    · have b4 : decide ((16777216 : Int) < name.size) = true := decide_eq_true hn2
      go_wp2_with fail
      go_ret
      exact ⟨rfl, HB1.out⟩
    have b4 : decide ((16777216 : Int) < name.size) = false := decide_eq_false hn2
    go_wp2_with fail
    refine hbr.mono ?_
    clear hbr
    rintro e w2 ⟨⟨v, rfl, hv⟩, g2⟩
    have HB2 := Lib.hid (chain HB1.out g2)
    clear g2
    cases v with
    | false =>
      go_wp2_with fail
      go_ret
      exact ⟨rfl, HB2.out⟩
    | true =>
      have HBR := Lib.hid (hv rfl)
      clear hv
      by_cases hz : l.length = 0
      · have b5 : ((l.length : Int) == 0) = true := by rw [hz]; rfl
        go_wp2_with fail
        go_ret
        exact ⟨rfl, HB2.out⟩
      have b5 : ((l.length : Int) == 0) = false := by rw [beq_eq_false_iff_ne]; omega
      have hl0 : 0 < l.length := Nat.pos_of_ne_zero hz
      by_cases hf0 : first < 0
      · have b6 : decide (first < 0) = true := decide_eq_true hf0
        go_wp2_with fail
        go_ret
        exact ⟨rfl, HB2.out⟩
      have b6 : decide (first < 0) = false := decide_eq_false hf0
      by_cases hfn : (l.length : Int) ≤ first
      · have b7 : decide ((l.length : Int) ≤ first) = true := decide_eq_true hfn
        go_wp2_with fail
        go_ret
        exact ⟨rfl, HB2.out⟩
      have b7 : decide ((l.length : Int) ≤ first) = false := decide_eq_false hfn
      obtain ⟨f, hf⟩ : ∃ f : Nat, first = f := ⟨first.toNat, by omega⟩
      subst hf
      have hfl : f < l.length := by omega
      have hL2 := HL.out.below HB2.out
      rcases hL2 with rfl | ⟨b, off, rfl, hr⟩
      · exact absurd hl0 (by simp)
      have HR2 := Lib.hid hr
      have HPA := Lib.hid (printAll_row b off cap l w2 hl1 (fun s hs => by have := HBR.out.2 s hs; omega) hr)
      clear hr HL
      go_wp2_with fail
      refine HPA.out.mono ?_
      clear HPA
      rintro e w3 ⟨⟨v, rfl, hv⟩, g3⟩
      have HB3 := Lib.hid (chain HB2.out g3)
      have HR3 := Lib.hid (HR2.out.below g3)
      clear g3 HR2
      cases v with
      | false =>
        go_wp2_with fail
        go_ret
        exact ⟨rfl, HB3.out⟩
      | true =>
        have HPP := Lib.hid (hv rfl)
        have hl40 : l.length ≤ 40 := (hv rfl).1
        clear hv
        have HCO := Lib.hid (coprime_any l.length step hl0 hl40)
        go_wp2_with fail
        refine (HCO.out w3).mono ?_
        clear HCO
        rintro e w4 ⟨⟨v, rfl, hv⟩, g4⟩
        have HB4 := Lib.hid (chain HB3.out g4)
        have HR4 := Lib.hid (HR3.out.below g4)
        clear g4 HR3
        cases v with
        | false =>
          go_wp2_with fail
          go_ret
          exact ⟨rfl, HB4.out⟩
        | true =>
          obtain ⟨s, rfl, hs1, hs40, hg⟩ := hv rfl
          have HG := Lib.hid hg
          clear hv hg
          have hT := type_any t w4 (by omega)
          cases htt : isType t with
          | false =>
            rw [htt] at hT
            go_wp2_with fail
            refine hT.mono ?_
            rintro e w5 ⟨rfl, rfl⟩
            go_wp2_with fail
            go_ret
            exact ⟨rfl, HB4.out⟩
          | true =>
            rw [htt] at hT
            have HTT := Lib.hid htt
            have hN := names_one name w4 (by omega)
            clear htt
            go_wp2_with fail
            refine hT.mono ?_
            rintro e w5 ⟨rfl, rfl⟩
            go_wp2_with fail
            refine hN.mono ?_
            clear hN hT
            rintro e w5 ⟨⟨v, rfl, hv⟩, g5⟩
            have HB5 := Lib.hid (chain HB4.out g5)
            have HR5 := Lib.hid (HR4.out.below g5)
            clear g5 HR4
            cases v with
            | false =>
              go_wp2_with fail
              go_ret
              exact ⟨rfl, HB5.out⟩
            | true =>
              have HNM := Lib.hid (hv rfl)
              clear hv
              have HNE : Hid (l ≠ []) := Lib.hid (fun e => hz (by rw [e]; rfl))
              have hts : t.size ≤ 16777216 := by omega
              have hns : name.size ≤ 16777216 := by omega
              have HTL : Hid ((texts (pcs name l f s l.length)).length ≤ 2013268000) := Lib.hid (by have := pc_texts_le (f := f) (s := s) hns HBR.out.2 hl0 l.length; omega)
              have HPI : Hid (Calls Tryz.prog 26 #[.string name, .slice (some ⟨b, off, none⟩) l.length cap, .int .i64 f, .int .i64 s] w5 fun e w' => e = .returned (.string (tx (texts (pcs name l f s l.length)))) ∧ Below w5.heap.size w5 w') :=
                Lib.hid (pieces_row name b off cap f s l w5 hns hl0 hl40 HBR.out.2 hfl hs40 HR5.out)
              have HP : Hid (∀ W, Below w5.heap.size w5 W → Calls Tryz.prog 14 #[.string (t ++ tx (texts (pcs name l f s l.length)))] W fun e w' => ∃ v, e = .returned (.tuple #[.string (lower t), v, .int .i64 0]) ∧ Pv v [(lower name, tx (cat l))] w' ∧ Below W.heap.size W w') :=
                Lib.hid fun W hW => parse_pcs e0 e1 t name l f s W (HE.out.below (chain HB5.out hW)) hts HTT.out hns HNM.out.1 HNM.out.2 HNE.out hl40 HBR.out.2 HPP.out.2 HG.out
              have HJ : Hid (∀ W, Below w5.heap.size w5 W → Calls Tryz.prog 23 #[.slice (some ⟨b, off, none⟩) l.length cap] W fun e w' => e = .returned (.string (tx (cat l))) ∧ Below W.heap.size W w') :=
                Lib.hid fun W hW => join_row b off cap l W (by omega) (by have := cat_le HBR.out.2; omega) (HR5.out.below hW)
              have hpz : (tx (texts (pcs name l f s l.length))).size ≤ 2013268000 := by rw [size_tx]; exact HTL.out
              have HLt := Lib.hid (fun W => lower_any t W (by omega))
              have HLn := Lib.hid (fun W => lower_any name W (by omega))
              clear HE HB1 HB2 HTT HNM HBR HPP HG HTL HR5 ht1 hn1 ht2 hn2 hz hf0 hfn HB3 HB4
              generalize tx (texts (pcs name l f s l.length)) = px at *
              generalize lower t = lt at HP HLt
              generalize lower name = ln at HP HLn
              generalize tx (cat l) = jn at HP HJ
              generalize l.length = n at *
              go_wp2_with fail
              refine HPI.out.mono ?_
              clear HPI
              rintro e w6 ⟨rfl, g6⟩
              have HB6 := Lib.hid g6
              clear g6
              go_wp2_with fail
              refine (HP.out w6 HB6.out).mono ?_
              clear HP
              rintro e w7 ⟨v, rfl, hv, g7⟩
              have HB7 := Lib.hid (chain HB6.out g7)
              have hsv : ∃ a n c, v = .slice a n c := by
                rcases hv with ⟨h, _⟩ | ⟨g, cp, h, _⟩
                · exact ⟨_, _, _, h⟩
                · exact ⟨_, _, _, h⟩
              obtain ⟨a5, n5, c5, rfl⟩ := hsv
              have HV7 := Lib.hid hv
              clear hv g7
              go_wp2_with fail
              refine (HLt.out w7).mono ?_
              rintro e w8 ⟨rfl, g8⟩
              have HB8 := Lib.hid (chain HB7.out g8)
              have HV8 := Lib.hid (HV7.out.below g8)
              clear g8 HV7 HLt HB7
              go_wp2_with fail
              refine (HLn.out w8).mono ?_
              rintro e w9 ⟨rfl, g9⟩
              have HB9 := Lib.hid (chain HB8.out g9)
              have HV9 := Lib.hid (HV8.out.below g9)
              clear g9 HV8 HLn HB8
              go_wp2_with fail
              refine (HJ.out w9 HB9.out).mono ?_
              rintro e wa ⟨rfl, ga⟩
              have HBa := Lib.hid (chain HB9.out ga)
              have HVa := Lib.hid (HV9.out.below ga)
              clear ga HV9 HJ HB9
              have hal : Below wa.heap.size wa (wa.alloc (.cells #[.string ln, .string jn] 38)) := (Below.refl _ wa).alloc (Nat.le_refl _) _
              have hsm := same_pv (HVa.out.below hal) (.inr ⟨wa.heap.size, 1, rfl, one_row wa ln jn⟩) (by simp)
              have HBb := Lib.hid (chain (chain HB5.out HBa.out) hal)
              clear hal HBa HVa
              go_wp2_with fail
              refine hsm.mono ?_
              rintro e wc ⟨rfl, gc⟩
              have HBc := Lib.hid (chain HBb.out gc)
              clear gc hsm
              go_wp2_with fail
              go_ret
              exact ⟨rfl, HBc.out⟩
end Go.Proofs.YtbklpdcipfhdjaaGreatDoor.Cont
