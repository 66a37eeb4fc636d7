/- For FnRound: the walks of needsEncoding and of the package's isToken. In plain Lean: the text that formatting gives, as written parameters, and what parsing it gives. For FormatMediaType: the builder that it writes, what it keeps, and what stands between two rounds of its inner loops. -/
import Derived.Test.YtbklpdcipfhdjaaGreatDoorPx
import Derived.Lib.OthersKept
namespace Go.Proofs.YtbklpdcipfhdjaaGreatDoor.Ne
open Go.RowKit Go.Maps Go.Sort Go.Lib Go.Proofs.YtbklpdcipfhdjaaGreatDoor.G Go.Proofs.YtbklpdcipfhdjaaGreatDoor.H Go.Proofs.YtbklpdcipfhdjaaGreatDoor.P Go.Proofs.YtbklpdcipfhdjaaGreatDoor.Q Go.Proofs.YtbklpdcipfhdjaaGreatDoor.T Go.Proofs.YtbklpdcipfhdjaaGreatDoor.W Go.Proofs.YtbklpdcipfhdjaaGreatDoor.X Go.Proofs.YtbklpdcipfhdjaaGreatDoor.Y Go.Proofs.YtbklpdcipfhdjaaGreatDoor.Pe Go.Proofs.YtbklpdcipfhdjaaGreatDoor.E Go.Proofs.YtbklpdcipfhdjaaGreatDoor.R Go.Proofs.YtbklpdcipfhdjaaGreatDoor.Cm Go.Proofs.YtbklpdcipfhdjaaGreatDoor.Pk Go.Proofs.YtbklpdcipfhdjaaGreatDoor.Pm Go.Proofs.YtbklpdcipfhdjaaGreatDoor.Gp Go.Proofs.YtbklpdcipfhdjaaGreatDoor.Rd Go.Proofs.YtbklpdcipfhdjaaGreatDoor.Pa Go.Proofs.YtbklpdcipfhdjaaGreatDoor.Srt Go.Proofs.YtbklpdcipfhdjaaGreatDoor.Gd Go.Proofs.YtbklpdcipfhdjaaGreatDoor.Uq Go.Proofs.YtbklpdcipfhdjaaGreatDoor.It Go.Proofs.YtbklpdcipfhdjaaGreatDoor.S Go.Proofs.YtbklpdcipfhdjaaGreatDoor.C Go.Proofs.YtbklpdcipfhdjaaGreatDoor.A Go.Proofs.YtbklpdcipfhdjaaGreatDoor.Og Go.Proofs.YtbklpdcipfhdjaaGreatDoor.Ec Go.Proofs.YtbklpdcipfhdjaaGreatDoor.Dc Go.Proofs.YtbklpdcipfhdjaaGreatDoor.Sl Go.Proofs.YtbklpdcipfhdjaaGreatDoor.F Go.Proofs.YtbklpdcipfhdjaaGreatDoor.Pn Go.Proofs.YtbklpdcipfhdjaaGreatDoor.J

def pr (s : ByteArray) (k : Nat) : Prop := ∀ x ∈ s.data.toList.take k, okb x = true

theorem pr_zero (s : ByteArray) : pr s 0 := by simp [pr]
theorem take_succ (s : ByteArray) (k : Nat) (h : k < s.size) : s.data.toList.take (k + 1) = s.data.toList.take k ++ [s[k]] := by
  rw [List.take_succ_eq_append_getElem (by simpa using h)]; rfl
theorem pr_succ (s : ByteArray) (k : Nat) (h : k < s.size) (hp : pr s k) (g : okb s[k] = true) : pr s (k + 1) := by
  intro x hx; rw [take_succ s k h] at hx; rcases List.mem_append.1 hx with h | h
  · exact hp x h
  · simp at h; rw [h]; exact g
theorem pr_bad (s : ByteArray) (k : Nat) (h : k < s.size) (g : okb s[k] = false) : printB s = false := by
  unfold printB; rw [List.all_eq_false]; exact ⟨_, List.mem_of_getElem (getb s k h), by simp [g]⟩
theorem pr_end (s : ByteArray) (k : Nat) (h : ¬ k < s.size) (hp : pr s k) : printB s = true := by
  unfold printB; rw [List.all_eq_true]; intro x hx; exact hp x (by rwa [List.take_of_length_le (by simp; omega)])

theorem iterPos_of {w : World} {k : Nat} {s : ByteArray} {pos : Nat} (h : w.heap[k]? = some (.stringIter s pos)) : w.iterPos k = pos := by simp [World.iterPos, h]

set_option maxHeartbeats 1000000 in
set_option maxRecDepth 100000 in
theorem needs_any (s : ByteArray) (w : World) :
    Calls Tryz.prog 69 #[.string s] w fun e w' => e = .returned (.bool (!printB s)) ∧ Below w.heap.size w w' := by
  go_enter Tryz.func69, Tryz.ntmps69
  go_wp2
  go_loopw [] (fun wr => ∃ pos : Nat, wr.heap[w.heap.size]? = some (.stringIter s pos) ∧ Below w.heap.size w wr ∧ Hid (pr s pos)) (fun wr => s.size - wr.iterPos w.heap.size)
  case atStart =>
    exact ⟨0, World.iter_heap w s 0, (Below.refl _ w).alloc (Nat.le_refl _) _, Lib.hid (pr_zero s)⟩
  case round =>
    obtain ⟨pos, hit, hbw, H⟩ := hrel
    by_cases hp : pos < s.size
    · have bd := s[pos].toNat_lt
      have hit2 := fun p => Lib.iterAt_heap wr w.heap.size s pos p hit
      have hbw2 := fun p => Lib.below_iterAt hbw (k := w.heap.size) (Nat.le_refl _) s p
      have Hit2 := Lib.hid hit2
      have Hbw2 := Lib.hid hbw2
      have Hip := Lib.hid (iterPos_of hit)
      clear hit2 hbw2
      by_cases ha : s[pos].toNat < 128
      · have hnx : ∀ ty, (Instr.next (.pointer (some ⟨w.heap.size, 0, none⟩)) true ty).run Tryz.prog wr = _ := fun ty => Lib.run_next_ascii_at wr w.heap.size s pos ty hit hp ha
        clear ha
        by_cases h1 : (s[pos].toNat : Int) < 32
        · have b1 : decide ((s[pos].toNat : Int) < 32) = true := decide_eq_true h1
          by_cases h9 : (s[pos].toNat : Int) = 9
          · have b9 : ((s[pos].toNat : Int) != 9) = false := by simp [h9]
            have G := Lib.hid (pr_succ s pos hp H.out (by unfold okb; simp; omega))
            clear h9
            go_wp2
            go_roundw
            case rel => exact ⟨pos + 1, Hit2.out _, Hbw2.out _, G⟩
            case measure => rw [iterPos_of (Hit2.out _), Hip.out]; omega
          · have b9 : ((s[pos].toNat : Int) != 9) = true := bne_iff_ne.mpr h9
            have G := Lib.hid (pr_bad s pos hp (by unfold okb; simp; omega))
            clear h9
            go_wp2
            go_ret
            exact ⟨ret_bool (by rw [G.out]; rfl), Hbw2.out _⟩
        · have b1 : decide ((s[pos].toNat : Int) < 32) = false := decide_eq_false h1
          by_cases h2 : (126 : Int) < s[pos].toNat
          · have b2 : decide ((126 : Int) < s[pos].toNat) = true := decide_eq_true h2
            have b9 : ((s[pos].toNat : Int) != 9) = true := bne_iff_ne.mpr (by omega)
            have G := Lib.hid (pr_bad s pos hp (by unfold okb; simp; omega))
            go_wp2
            go_ret
            exact ⟨ret_bool (by rw [G.out]; rfl), Hbw2.out _⟩
          · have b2 : decide ((126 : Int) < s[pos].toNat) = false := decide_eq_false h2
            have G := Lib.hid (pr_succ s pos hp H.out (by unfold okb; simp; omega))
            go_wp2
            go_roundw
            case rel => exact ⟨pos + 1, Hit2.out _, Hbw2.out _, G⟩
            case measure => rw [iterPos_of (Hit2.out _), Hip.out]; omega
      · have hnx : ∀ ty, (Instr.next (.pointer (some ⟨w.heap.size, 0, none⟩)) true ty).run Tryz.prog wr = _ := fun ty => Lib.run_next_any_at wr w.heap.size s pos ty hit hp
        have hd := decode_high s pos hp (by omega)
        have G := Lib.hid (pr_bad s pos hp (by unfold okb; simp; omega))
        clear ha
        generalize (Utf8.decode s pos).1 = r at *
        generalize (Utf8.decode s pos).2 = n at *
        have b1 : decide ((r : Int) < 32) = false := decide_eq_false (by omega)
        have b2 : decide ((126 : Int) < r) = true := decide_eq_true (by omega)
        have b9 : ((r : Int) != 9) = true := bne_iff_ne.mpr (by omega)
        go_wp2
        go_ret
        exact ⟨ret_bool (by rw [G.out]; rfl), Hbw2.out _⟩
    · have hnx : ∀ ty, (Instr.next (.pointer (some ⟨w.heap.size, 0, none⟩)) true ty).run Tryz.prog wr = _ := fun ty => Lib.run_next_end_at wr w.heap.size s pos ty hit hp
      have G := Lib.hid (pr_end s pos hp H.out)
      go_wp2
      go_ret
      exact ⟨ret_bool (by rw [G.out]; rfl), hbw⟩


set_option maxHeartbeats 1000000 in
set_option maxRecDepth 100000 in
theorem tok65_any (s : ByteArray) (w : World) (hs : s.size ≤ 1099511627776) :
    Calls Tryz.prog 65 #[.string s] w fun e w' => e = .returned (.bool (isTok s)) ∧ Below w.heap.size w w' := by
  by_cases h0 : s.size = 0
  · have b0 : s.toList.isEmpty = true := emp_yes h0
    have G : Hid (isTok s = false) := Lib.hid (by unfold isTok; rw [h0]; rfl)
    go_enter Tryz.func65, Tryz.ntmps65
    go_wp2_with fail
    go_ret
    exact ⟨ret_bool (by rw [G.out]), Below.refl _ _⟩
  have b0 : s.toList.isEmpty = false := emp_no (by omega)
  go_enter Tryz.func65, Tryz.ntmps65
  go_wp2_with fail
  obtain ⟨cap, W, hcv, hcap, HL⟩ := G.conv w s
  rw [hcv]
  simp only [Result.andThen]
  rw [Oper.upon_value]
  clear hcv
  go_wp2_with fail
  go_loopw [10] (fun i wr => ∃ k : Nat, k ≤ s.size ∧ i = .int .i64 k ∧ Hid (∀ x ∈ (bl s).take k, tokB x.toNat = true) ∧ Hid (wr = W)) (fun i _ => s.size - (intOf i).toNat)
  case atStart => exact ⟨0, Nat.zero_le _, rfl, Lib.hid (by simp), Lib.hid rfl⟩
  case round =>
    obtain ⟨k, hk, rfl, HA, HW⟩ := hrel
    obtain rfl := HW.out
    by_cases hlt : k < s.size
    · have bd := s[k].toNat_lt
      have hc := HL.out.rest k hlt (Nat.zero_le _)
      have ht := tokenChar_any s[k].toNat bd wr
      have htk : (bl s).take (k + 1) = (bl s).take k ++ [s[k]] := by rw [List.take_succ_eq_append_getElem (by rw [← sz]; exact hlt)]; rfl
      cases hb : tokB s[k].toNat with
      | false =>
        rw [hb] at ht
        have G : Hid (isTok s = false) := Lib.hid (by
          cases hx : isTok s with
          | false => rfl
          | true =>
            have := (tok_all hx).2 s[k] (by
              have : s[k] ∈ (bl s).take (k + 1) := by rw [htk]; simp
              exact List.mem_of_mem_take this)
            rw [hb] at this; cases this)
        have HB := Lib.hid HL.out.below
        clear hb htk
        go_wp2_with fail
        refine ht.mono ?_
        rintro e w1 ⟨rfl, rfl⟩
        go_wp2_with fail
        go_ret
        exact ⟨ret_bool (by rw [G.out]), HB.out⟩
      | true =>
        rw [hb] at ht
        have G : Hid (∀ x ∈ (bl s).take (k + 1), tokB x.toNat = true) := Lib.hid (by
          intro x hx
          rw [htk] at hx
          rcases List.mem_append.1 hx with h | h
          · exact HA.out x h
          · simp at h; subst h; exact hb)
        clear hb htk
        go_wp2_with fail
        refine ht.mono ?_
        rintro e w1 ⟨rfl, rfl⟩
        go_wp2_with fail
        exact ⟨⟨k + 1, by omega, by go_num, G, Lib.hid (by trivial)⟩, by simp [intOf]; omega⟩
    · obtain rfl : k = s.size := by omega
      have G : Hid (isTok s = true) := Lib.hid ((tokL_iff s).2 ⟨fun e => h0 (by rw [sz, e]; rfl), by
        have := HA.out
        rw [List.take_of_length_le (by rw [← sz]; exact Nat.le_refl _)] at this
        exact this⟩)
      have HB := Lib.hid HL.out.below
      go_wp2_with fail
      go_ret
      exact ⟨ret_bool (by rw [G.out]), HB.out⟩
end Go.Proofs.YtbklpdcipfhdjaaGreatDoor.Ne

namespace Go.Proofs.YtbklpdcipfhdjaaGreatDoor.Fp
open Go.RowKit Go.Maps Go.Sort Go.Lib Go.Proofs.YtbklpdcipfhdjaaGreatDoor.G Go.Proofs.YtbklpdcipfhdjaaGreatDoor.H Go.Proofs.YtbklpdcipfhdjaaGreatDoor.P Go.Proofs.YtbklpdcipfhdjaaGreatDoor.Q Go.Proofs.YtbklpdcipfhdjaaGreatDoor.T Go.Proofs.YtbklpdcipfhdjaaGreatDoor.W Go.Proofs.YtbklpdcipfhdjaaGreatDoor.X Go.Proofs.YtbklpdcipfhdjaaGreatDoor.Y Go.Proofs.YtbklpdcipfhdjaaGreatDoor.Pe Go.Proofs.YtbklpdcipfhdjaaGreatDoor.E Go.Proofs.YtbklpdcipfhdjaaGreatDoor.R Go.Proofs.YtbklpdcipfhdjaaGreatDoor.Cm Go.Proofs.YtbklpdcipfhdjaaGreatDoor.Pk Go.Proofs.YtbklpdcipfhdjaaGreatDoor.Pm Go.Proofs.YtbklpdcipfhdjaaGreatDoor.Gp Go.Proofs.YtbklpdcipfhdjaaGreatDoor.Rd Go.Proofs.YtbklpdcipfhdjaaGreatDoor.Pa Go.Proofs.YtbklpdcipfhdjaaGreatDoor.Srt Go.Proofs.YtbklpdcipfhdjaaGreatDoor.Gd Go.Proofs.YtbklpdcipfhdjaaGreatDoor.Uq Go.Proofs.YtbklpdcipfhdjaaGreatDoor.It Go.Proofs.YtbklpdcipfhdjaaGreatDoor.S Go.Proofs.YtbklpdcipfhdjaaGreatDoor.C Go.Proofs.YtbklpdcipfhdjaaGreatDoor.A Go.Proofs.YtbklpdcipfhdjaaGreatDoor.Og Go.Proofs.YtbklpdcipfhdjaaGreatDoor.Ec Go.Proofs.YtbklpdcipfhdjaaGreatDoor.Dc Go.Proofs.YtbklpdcipfhdjaaGreatDoor.Sl Go.Proofs.YtbklpdcipfhdjaaGreatDoor.F Go.Proofs.YtbklpdcipfhdjaaGreatDoor.Pn Go.Proofs.YtbklpdcipfhdjaaGreatDoor.J Go.Proofs.YtbklpdcipfhdjaaGreatDoor.Px Go.Proofs.YtbklpdcipfhdjaaGreatDoor.Sm

abbrev u8L : List UInt8 := [117, 116, 102, 45, 56, 39, 39]
/-- A parameter as it is formatted. -/
def fmtW (p : Pr) : Wn :=
  if printB p.2 then ⟨⟨#[]⟩, ⟨#[32]⟩, lower p.1, p.2, !isTok p.2⟩ else ⟨⟨#[]⟩, ⟨#[32]⟩, lower p.1 ++ ⟨#[42]⟩, tx (u8L ++ esc (bl p.2)), false⟩
theorem fmt_yes {p : Pr} (h : printB p.2 = true) : fmtW p = ⟨⟨#[]⟩, ⟨#[32]⟩, lower p.1, p.2, !isTok p.2⟩ := by unfold fmtW; rw [if_pos h]
theorem fmt_no {p : Pr} (h : printB p.2 = false) : fmtW p = ⟨⟨#[]⟩, ⟨#[32]⟩, lower p.1 ++ ⟨#[42]⟩, tx (u8L ++ esc (bl p.2)), false⟩ := by unfold fmtW; rw [if_neg (by rw [h]; simp)]
theorem text_tok {p : Pr} (h : printB p.2 = true) (k : isTok p.2 = true) : Wn.text (fmtW p) = [59] ++ [32] ++ bl (lower p.1) ++ [61] ++ bl p.2 := by
  rw [fmt_yes h]; unfold Wn.text Wn.val; rw [k]; simp [bl]
theorem text_quo {p : Pr} (h : printB p.2 = true) (k : isTok p.2 = false) : Wn.text (fmtW p) = [59] ++ [32] ++ bl (lower p.1) ++ [61] ++ ([34] ++ qb (bl p.2) ++ [34]) := by
  rw [fmt_yes h]; unfold Wn.text Wn.val; rw [k]; simp [bl, quoteL]
theorem text_ext {p : Pr} (h : printB p.2 = false) : Wn.text (fmtW p) = [59] ++ [32] ++ bl (lower p.1) ++ [42] ++ [61] ++ u8L ++ esc (bl p.2) := by
  rw [fmt_no h]; unfold Wn.text Wn.val; simp [bl, tx]

theorem low_low : ∀ c : UInt8, low (low c) = low c := by
  intro c
  have : ∀ n, n < 256 → low (low (UInt8.ofNat n)) = low (UInt8.ofNat n) := by decide +kernel
  simpa using this c.toNat c.toNat_lt
theorem lower_lower (s : ByteArray) : lower (lower s) = lower s := by
  apply eq_of_bl
  rw [lower_bl, lower_bl, List.map_map]
  apply List.map_congr_left
  intro c _
  exact low_low c
theorem lower_tok {s : ByteArray} (h : isTok s = true) : isTok (lower s) = true := (tokL_iff _).2 (((tokL_iff s).1 h).low)
theorem lower_no {s : ByteArray} (h : (42 : UInt8) ∉ bl s) : (42 : UInt8) ∉ bl (lower s) := by
  rw [lower_bl]
  intro h2
  obtain ⟨d, hd, e⟩ := List.mem_map.1 h2
  exact h (low42 d e ▸ hd)
/-- Names that may be formatted, apart in small letters. -/
structure Nf (l : List Pr) : Prop where
  tok : ∀ p ∈ l, isTok p.1 = true
  star : ∀ p ∈ l, (42 : UInt8) ∉ bl p.1
  apart : (l.map fun p => lower p.1).Nodup
theorem Nf.perm {l m : List Pr} (h : Nf l) (k : m.Perm l) : Nf m := ⟨fun p hp => h.tok p (k.mem_iff.1 hp), fun p hp => h.star p (k.mem_iff.1 hp), ((k.map _).nodup_iff).2 h.apart⟩
theorem name_yes {p : Pr} (h : printB p.2 = true) : lower (fmtW p).name = lower p.1 := by rw [fmt_yes h]; exact lower_lower _
theorem name_no {p : Pr} (h : printB p.2 = false) : lower (fmtW p).name = lower p.1 ++ ⟨#[42]⟩ := by
  rw [fmt_no h]
  show lower (lower p.1 ++ ⟨#[42]⟩) = _
  rw [lower_append, lower_lower, lower_star]
theorem fmt_star {p : Pr} (h : printB p.2 = false) (k : (42 : UInt8) ∉ bl p.1) : star (fmtW p) = true ∧ baseL (fmtW p) = lower p.1 := by
  have := star_of (x := fmtW p) (name := lower p.1) (r := ⟨#[]⟩) (by rw [fmt_no h]; apply eq_of_bl; simp [bl]) (lower_no k)
  rw [lower_lower] at this
  exact this
theorem fmt_nostar {p : Pr} (h : printB p.2 = true) (k : (42 : UInt8) ∉ bl p.1) : star (fmtW p) = false := by
  unfold star
  rw [name_yes h]
  simpa using lower_no k
theorem bytes_tok {l : List UInt8} (h0 : l ≠ []) (h : ∀ c ∈ l, tokB c.toNat = true) : isTok (tx l) = true := (tokL_iff _).2 ⟨by rw [bl_tx]; exact h0, by rw [bl_tx]; exact h⟩
theorem u8_tok (l : List UInt8) : isTok (tx (u8L ++ esc l)) = true := by
  refine bytes_tok (by simp) (fun c hc => ?_)
  rcases List.mem_append.1 hc with h | h
  · have : ∀ c ∈ u8L, tokB c.toNat = true := by decide +kernel
    exact this c h
  · exact tok_esc c h
theorem fmt_writ {p : Pr} (h : isTok p.1 = true) : Writ (fmtW p) := by
  cases hp : printB p.2 with
  | true =>
    rw [fmt_yes hp]
    refine ⟨rfl, rfl, hp, ?_, lower_tok h⟩
    cases hk : isTok p.2 with
    | true => exact .inr rfl
    | false => exact .inl rfl
  | false =>
    rw [fmt_no hp]
    exact ⟨rfl, rfl, tok_okb (u8_tok _), .inr (u8_tok _), tok_append (lower_tok h) tok_star⟩
theorem name_ne {p q : Pr} (h : lower p.1 ≠ lower q.1) (kp : (42 : UInt8) ∉ bl p.1) (kq : (42 : UInt8) ∉ bl q.1) : lower (fmtW p).name ≠ lower (fmtW q).name := by
  intro e
  cases hp : printB p.2 with
  | true =>
    rw [name_yes hp] at e
    cases hq : printB q.2 with
    | true => rw [name_yes hq] at e; exact h e
    | false =>
      rw [name_no hq] at e
      apply lower_no kp
      rw [e]; simp [bl]
  | false =>
    rw [name_no hp] at e
    cases hq : printB q.2 with
    | true =>
      rw [name_yes hq] at e
      apply lower_no kq
      rw [← e]; simp [bl]
    | false =>
      rw [name_no hq] at e
      apply h
      have := congrArg bl e
      rw [bl_app, bl_app] at this
      exact eq_of_bl (List.append_cancel_right this)
theorem fmt_nm {l : List Pr} (h : Nf l) : Nm (l.map fmtW) := by
  refine ⟨fun x hx => ?_, ?_⟩
  · obtain ⟨p, hp, rfl⟩ := List.mem_map.1 hx
    exact fmt_writ (h.tok p hp)
  · rw [List.map_map]
    have ha := List.pairwise_map.1 h.apart
    refine List.pairwise_map.2 (ha.imp_of_mem ?_)
    intro p q hp hq hne
    exact name_ne hne (h.star p hp) (h.star q hq)

/-- Groups whose bases are all apart. -/
theorem groups_apart {l : List Wn} (h : ((l.filter star).map baseL).Nodup) : groups l = (l.filter star).map fun x => (baseL x, [pairL x]) := by
  suffices hs : ∀ (m : List Wn) (pre : List Wn), ((pre ++ m).map baseL).Nodup → m.foldl put1 (pre.map fun x => (baseL x, [pairL x])) = (pre ++ m).map fun x => (baseL x, [pairL x]) from hs _ [] h
  intro m
  induction m with
  | nil => intro pre _; simp
  | cons x m ih =>
    intro pre hn
    have h1 : put1 (pre.map fun x => (baseL x, [pairL x])) x = (pre ++ [x]).map fun x => (baseL x, [pairL x]) := by
      unfold put1
      rw [if_neg]
      · simp
      · rw [any_iff]
        rintro ⟨g, hg, e⟩
        obtain ⟨y, hy, rfl⟩ := List.mem_map.1 hg
        rw [List.map_append, List.nodup_append] at hn
        exact hn.2.2 _ (List.mem_map.2 ⟨y, hy, rfl⟩) _ (by simp) e
    rw [List.foldl_cons, h1, ih (pre ++ [x]) (by simpa using hn)]
    simp
/-- A parameter with its name in small letters. -/
abbrev lp (p : Pr) : Pr := (lower p.1, p.2)
theorem fmt_plains {l : List Pr} (h : Nf l) : plains (l.map fmtW) = (l.filter fun p => printB p.2).map lp := by
  unfold plains
  rw [List.filter_map, List.map_map]
  have e : l.filter ((fun x => !star x) ∘ fmtW) = l.filter fun p => printB p.2 := by
    refine List.filter_congr fun p hp => ?_
    simp only [Function.comp]
    cases hb : printB p.2 with
    | true => rw [fmt_nostar hb (h.star p hp)]; rfl
    | false => rw [(fmt_star hb (h.star p hp)).1]; rfl
  rw [e]
  refine List.map_congr_left fun p hp => ?_
  have hb : printB p.2 = true := by simpa using (List.mem_filter.1 hp).2
  show (lower (fmtW p).name, (fmtW p).value) = _
  rw [name_yes hb, fmt_yes hb]
theorem fmt_groups {l : List Pr} (h : Nf l) : groups (l.map fmtW) = (l.filter fun p => !printB p.2).map fun p => (lower p.1, [(lower p.1 ++ ⟨#[42]⟩, tx (u8L ++ esc (bl p.2)))]) := by
  have e : (l.map fmtW).filter star = (l.filter fun p => !printB p.2).map fmtW := by
    rw [List.filter_map]
    congr 1
    refine List.filter_congr fun p hp => ?_
    simp only [Function.comp]
    cases hb : printB p.2 with
    | true => rw [fmt_nostar hb (h.star p hp)]; rfl
    | false => rw [(fmt_star hb (h.star p hp)).1]; rfl
  have hb : ∀ p ∈ l.filter fun p => !printB p.2, p ∈ l ∧ printB p.2 = false := fun p hp => by
    obtain ⟨h1, h2⟩ := List.mem_filter.1 hp
    exact ⟨h1, by simpa using h2⟩
  rw [groups_apart, e, List.map_map]
  · refine List.map_congr_left fun p hp => ?_
    obtain ⟨h1, h2⟩ := hb p hp
    show (baseL (fmtW p), [(lower (fmtW p).name, (fmtW p).value)]) = _
    rw [(fmt_star h2 (h.star p h1)).2, name_no h2, fmt_no h2]
  · rw [e, List.map_map]
    have e2 : (l.filter fun p => !printB p.2).map (baseL ∘ fmtW) = (l.filter fun p => !printB p.2).map fun p => lower p.1 := by
      refine List.map_congr_left fun p hp => ?_
      obtain ⟨h1, h2⟩ := hb p hp
      exact (fmt_star h2 (h.star p h1)).2
    rw [e2]
    exact (List.filter_sublist.map _).nodup h.apart

/-- How much the parameters hold. -/
def tot : List Pr → Nat
  | [] => 0
  | p :: l => p.1.size + p.2.size + 1 + tot l
theorem tot_perm {l m : List Pr} (h : l.Perm m) : tot l = tot m := by
  induction h with
  | nil => rfl
  | cons p _ ih => simp only [tot]; omega
  | swap p q l => simp only [tot]; omega
  | trans _ _ h1 h2 => exact h1.trans h2
theorem tot_mem {l : List Pr} {p : Pr} (h : p ∈ l) : p.1.size + p.2.size + 1 ≤ tot l := by
  induction l with
  | nil => simp at h
  | cons q l ih =>
    simp only [tot]
    rcases List.mem_cons.1 h with rfl | h
    · omega
    · have := ih h; omega
theorem tot_len (l : List Pr) : l.length ≤ tot l := by
  induction l with
  | nil => simp
  | cons p l ih => simp only [tot, List.length_cons]; omega
theorem fmt_len (p : Pr) : (Wn.text (fmtW p)).length ≤ 12 * (p.1.size + p.2.size + 1) := by
  have h1 : (bl (lower p.1)).length = p.1.size := by rw [← sz, lower_size]
  have h2 := sz p.2
  have h3 := esc_len (bl p.2)
  have h4 := pct_le (bl p.2)
  have h5 := Z.qb_le (bl p.2)
  cases hp : printB p.2 with
  | true =>
    cases hk : isTok p.2 with
    | true => rw [text_tok hp hk]; simp only [List.length_append, List.length_cons, List.length_nil]; omega
    | false => rw [text_quo hp hk]; simp only [List.length_append, List.length_cons, List.length_nil]; omega
  | false => rw [text_ext hp]; simp only [List.length_append, List.length_cons, List.length_nil]; omega
theorem texts_tot (l : List Pr) : (texts (l.map fmtW)).length ≤ 12 * tot l := by
  induction l with
  | nil => simp [texts]
  | cons p l ih =>
    have := fmt_len p
    rw [List.map_cons, texts_cons, List.length_append]
    simp only [tot]
    omega

theorem val_of {l : List Pr} (h : Nf l) : ∃ X : ByteArray → List UInt8, ∀ p ∈ l, X (lower p.1) = bl p.2 := by
  refine ⟨fun b => bl (((l.find? fun p => bl (lower p.1) == bl b).map (·.2)).getD ⟨#[]⟩), fun p hp => ?_⟩
  have hf : l.find? (fun q => bl (lower q.1) == bl (lower p.1)) = some p := by
    cases hq : l.find? (fun q => bl (lower q.1) == bl (lower p.1)) with
    | none =>
      have := List.find?_eq_none.1 hq p hp
      simp at this
    | some q =>
      have h1 := List.find?_some hq
      have h2 := List.mem_of_find?_eq_some hq
      have h3 := eq_of_bl (eq_of_beq h1)
      rw [Cm.same_of (fun p : Pr => lower p.1) l h.apart q p h2 hp h3]
  simp only [hf]
  rfl

/-- Parse at the text that formatting gives. -/
theorem parse_fmt (e0 e1 : Value) (t : ByteArray) (L l : List Pr) (W : World) (hE : Env e0 e1 W) (ht : t.size ≤ 16777216) (hT : isType t = true) (hL : Nf L) (hp : l.Perm L) (htot : tot L ≤ 1048576) (h5 : L.length ≤ 524288) :
    Calls Tryz.prog 14 #[.string (lower t ++ tx (texts (l.map fmtW)))] W fun e w' => ∃ v, e = .returned (.tuple #[.string (lower t), v, .int .i64 0]) ∧ Pv v (sortP (lowP L)) w' ∧ Below W.heap.size W w' := by
  have hl := hL.perm hp
  obtain ⟨X, hX⟩ := val_of hl
  have hgr := fmt_groups hl
  have hpl := fmt_plains hl
  have htl : tot l ≤ 1048576 := by rw [tot_perm hp]; exact htot
  have htx := texts_tot l
  have hlt : isType (lower t) = true := (typeL_iff _).2 (((typeL_iff t).1 hT).low)
  have hsz : (lower t ++ tx (texts (l.map fmtW))).size ≤ 1099511627776 := by rw [app_size, size_tx, lower_size]; omega
  have hm : ∀ p ∈ l.filter fun p => !printB p.2, p ∈ l ∧ printB p.2 = false := fun p hp => by
    obtain ⟨h1, h2⟩ := List.mem_filter.1 hp
    exact ⟨h1, by simpa using h2⟩
  have hgm : (groups (l.map fmtW)).map (fun g => (g.1, tx (X g.1))) = (l.filter fun p => !printB p.2).map lp := by
    rw [hgr, List.map_map]
    refine List.map_congr_left fun p hp => ?_
    show (lower p.1, tx (X (lower p.1))) = _
    rw [hX p (hm p hp).1, tx_bl]
  have hpe : (plains (l.map fmtW) ++ (groups (l.map fmtW)).map (fun g => (g.1, tx (X g.1)))).Perm (lowP L) := by
    rw [hpl, hgm, ← List.map_append]
    exact ((List.filter_append_perm (fun p : Pr => printB p.2) l).trans hp).map lp
  have hnd : ((lowP L).map (·.1)).Nodup := by
    have e : (lowP L).map (·.1) = L.map fun p => lower p.1 := by simp [lowP]
    rw [e]; exact hL.apart
  have hnd2 : ((plains (l.map fmtW) ++ (groups (l.map fmtW)).map (fun g => (g.1, tx (X g.1)))).map (·.1)).Nodup := ((hpe.map _).nodup_iff).2 hnd
  have h := parse_stars e0 e1 (lower t ++ tx (texts (l.map fmtW))) (lower t) (l.map fmtW) X W hE hsz (by rw [bl_app, bl_tx]) hlt (fmt_nm hl) (by rw [List.length_map, hp.length_eq]; exact h5)
    (by
      rw [hgr]
      intro g hg
      obtain ⟨p, hp, rfl⟩ := List.mem_map.1 hg
      obtain ⟨h1, h2⟩ := hm p hp
      have hps := tot_mem h1
      have h3 := esc_len (bl p.2)
      have h4 := pct_le (bl p.2)
      rw [← sz] at h3 h4
      simp only
      rw [hX p h1]
      refine .single (tx (u8L ++ esc (bl p.2))) (by simp) (dec_any _ [117, 116, 102, 45, 56] [] (bl p.2) (by rw [size_tx, List.length_append]; simp; omega) (by rw [bl_tx]; rfl) (by decide) (by decide) (by decide)) (by rw [← sz]; omega))
    (by
      rw [hgr, hpl]
      intro g hg p hp
      obtain ⟨q, hq, rfl⟩ := List.mem_map.1 hg
      obtain ⟨r, hr, rfl⟩ := List.mem_map.1 hp
      obtain ⟨h1, h2⟩ := hm q hq
      obtain ⟨h3, h4⟩ := List.mem_filter.1 hr
      intro e
      have := Cm.same_of (fun p : Pr => lower p.1) l hl.apart r q h3 h1 e
      rw [this, h2] at h4
      cases h4)
    (by
      rw [hgr]
      intro g hg
      obtain ⟨p, hp, rfl⟩ := List.mem_map.1 hg
      have hps := tot_mem (hm p hp).1
      simp only
      rw [lower_size]
      omega) hnd2
  have es : sortP (plains (l.map fmtW) ++ (groups (l.map fmtW)).map (fun g => (g.1, tx (X g.1)))) = sortP (lowP L) := uniq hnd2 ((sortP_perm _).trans hpe.symm) (sortP_sorted (lowP L))
  rw [es, lower_lower] at h
  exact h
end Go.Proofs.YtbklpdcipfhdjaaGreatDoor.Fp

namespace Go.Proofs.YtbklpdcipfhdjaaGreatDoor.Fs
open Go.RowKit Go.Maps Go.Sort Go.Lib Go.Proofs.YtbklpdcipfhdjaaGreatDoor.G Go.Proofs.YtbklpdcipfhdjaaGreatDoor.H Go.Proofs.YtbklpdcipfhdjaaGreatDoor.P Go.Proofs.YtbklpdcipfhdjaaGreatDoor.Q Go.Proofs.YtbklpdcipfhdjaaGreatDoor.T Go.Proofs.YtbklpdcipfhdjaaGreatDoor.W Go.Proofs.YtbklpdcipfhdjaaGreatDoor.X Go.Proofs.YtbklpdcipfhdjaaGreatDoor.Y Go.Proofs.YtbklpdcipfhdjaaGreatDoor.Pe Go.Proofs.YtbklpdcipfhdjaaGreatDoor.E Go.Proofs.YtbklpdcipfhdjaaGreatDoor.R Go.Proofs.YtbklpdcipfhdjaaGreatDoor.Cm Go.Proofs.YtbklpdcipfhdjaaGreatDoor.Pk Go.Proofs.YtbklpdcipfhdjaaGreatDoor.Pm Go.Proofs.YtbklpdcipfhdjaaGreatDoor.Gp Go.Proofs.YtbklpdcipfhdjaaGreatDoor.Rd Go.Proofs.YtbklpdcipfhdjaaGreatDoor.Pa Go.Proofs.YtbklpdcipfhdjaaGreatDoor.Srt Go.Proofs.YtbklpdcipfhdjaaGreatDoor.Gd Go.Proofs.YtbklpdcipfhdjaaGreatDoor.Uq Go.Proofs.YtbklpdcipfhdjaaGreatDoor.It Go.Proofs.YtbklpdcipfhdjaaGreatDoor.S Go.Proofs.YtbklpdcipfhdjaaGreatDoor.C Go.Proofs.YtbklpdcipfhdjaaGreatDoor.A Go.Proofs.YtbklpdcipfhdjaaGreatDoor.Og Go.Proofs.YtbklpdcipfhdjaaGreatDoor.Ec Go.Proofs.YtbklpdcipfhdjaaGreatDoor.Dc Go.Proofs.YtbklpdcipfhdjaaGreatDoor.Sl Go.Proofs.YtbklpdcipfhdjaaGreatDoor.F Go.Proofs.YtbklpdcipfhdjaaGreatDoor.Pn Go.Proofs.YtbklpdcipfhdjaaGreatDoor.J Go.Proofs.YtbklpdcipfhdjaaGreatDoor.Px Go.Proofs.YtbklpdcipfhdjaaGreatDoor.Sm Go.Proofs.YtbklpdcipfhdjaaGreatDoor.Fp Go.Proofs.YtbklpdcipfhdjaaGreatDoor.Ne Go.Proofs.YtbklpdcipfhdjaaGreatDoor.Bd Go.Proofs.YtbklpdcipfhdjaaGreatDoor.D

/-- What has been kept since world w1: all below b, and all that is neither the builder nor a row of bytes. -/
structure KO (b : Nat) (w1 wr : World) : Prop where
  below : Below b w1 wr
  oth : Lib.OthersKept 5 (some b) w1 wr
theorem KO.refl (b : Nat) (w : World) : KO b w w := ⟨Below.refl _ _, Lib.OthersKept.refl _ _ _⟩
theorem KO.call {b : Nat} {w1 wr w' : World} (h : KO b w1 wr) (hb : Below wr.heap.size wr w') (hB : b ≤ wr.heap.size) : KO b w1 w' :=
  ⟨h.below.trans (hb.mono hB), h.oth.trans fun k _ hk _ _ => (hb.block k (lt_of hk)).trans hk⟩
/-- The builder in block b holds m. -/
structure Fs (b : Nat) (w1 wr : World) (m : List UInt8) : Prop where
  bd : Bd b b m wr
  ko : KO b w1 wr
theorem Fs.ge {b : Nat} {w1 wr : World} {m : List UInt8} (h : Fs b w1 wr m) : b ≤ wr.heap.size := Nat.le_of_lt h.bd.lt
theorem Fs.call {b : Nat} {w1 wr w' : World} {m : List UInt8} (h : Fs b w1 wr m) (hb : Below wr.heap.size wr w') : Fs b w1 w' m := ⟨bd_below h.bd hb, h.ko.call hb h.ge⟩
theorem ws_any {b : Nat} {w1 wr : World} {m : List UInt8} (h : Fs b w1 wr m) (s : ByteArray) (hm : m.length ≤ 70368744177664) (hs : s.size ≤ 1099511627776) :
    Calls Tryz.prog 57 #[.pointer (some ⟨b, 0, none⟩), .string s] wr fun e w' => e = .returned (.tuple #[.int .i64 s.size, .nilIface]) ∧ Fs b w1 w' (m ++ bl s) := by
  refine (WriteString_any b b m s wr h.bd (by omega) h.ge).mono ?_
  rintro e w' ⟨rfl, h1, h2⟩
  exact ⟨rfl, h1, ⟨h.ko.below.trans h2.below, h.ko.oth.trans h2.others⟩⟩
theorem wb_any {b : Nat} {w1 wr : World} {m : List UInt8} (h : Fs b w1 wr m) (c : Nat) (hc : c < 256) (hm : m.length ≤ 70368744177664) :
    Calls Tryz.prog 66 #[.pointer (some ⟨b, 0, none⟩), .int .u8 c] wr fun e w' => e = .returned .nilIface ∧ Fs b w1 w' (m ++ [UInt8.ofNat c]) := by
  refine (WriteByte_any b b m c hc wr h.bd (by omega) h.ge).mono ?_
  rintro e w' ⟨rfl, h1, h2⟩
  exact ⟨rfl, h1, ⟨h.ko.below.trans h2.below, h.ko.oth.trans h2.others⟩⟩
theorem Fs.om {b B : Nat} {w1 wr : World} {m : List UInt8} {E : List Pr} (h : Fs b w1 wr m) (hO : OM w1 B E) (h0 : ∃ c T fz, w1.heap[b]? = some (Obj.cells c T fz)) : OM wr B E := om_mk hO (MK.of_others h.ko.oth h0)
/-- A row of texts is kept. -/
theorem Fs.row {b g : Nat} {w1 wr : World} {m : List UInt8} {c : Array Value} {fz : Nat × Nat} (h : Fs b w1 wr m) (hg : w1.heap[g]? = some (.cells c 9 fz)) (hne : g ≠ b) : wr.heap[g]? = some (.cells c 9 fz) :=
  h.ko.oth g _ hg (by simp [hne]) (by intro c2 fz2 e; injection e with _ e2; exact absurd e2 (by decide))
theorem OM.get {w : World} {B : Nat} {E : List Pr} (h : OM w B E) {p : Pr} (hs : p.1.size ≤ 1099511627776) (hp : p ∈ E) :
    (Instr.lookup 52 (.map (some B)) (.string p.1) false).run Tryz.prog w = .ok (.string p.2) w := by
  obtain ⟨D, h1, h2⟩ := h
  obtain ⟨v, ps, hr, hv⟩ := h1.lookup law Tryz.underlying52 (zeroE _) (plainElem_string Tryz.underlying9 (by decide)) (hkey _ hs)
  rw [(h2.at_ p hp).2] at hv
  obtain ⟨c, rfl, hc⟩ := plainElem_string_inv Tryz.underlying9 hv
  have : c = p.2 := by
    have h3 := hc.1
    simp only [Prod.mk.injEq, DataW.lit.injEq, Lit.string.injEq] at h3
    exact (eq_of_bl h3.1).symm
  rw [this] at hr
  exact hr

/-- A text from one place to another. -/
theorem ext_bl (v : ByteArray) (a c : Nat) : bl (v.extract a c) = ((bl v).take c).drop a := by
  have := ext_cut v a c
  rw [List.drop_take]
  exact this
/-- Between two rounds: what has been written, and what is still to be written up to idx, are what F makes of the first idx bytes. -/
structure Iv (F : List UInt8 → List UInt8) (A : List UInt8) (v : ByteArray) (off idx : Nat) (m : List UInt8) : Prop where
  eq : m ++ ((bl v).take idx).drop off = A ++ F ((bl v).take idx)
  le : off ≤ idx
  sz : idx ≤ v.size
theorem Iv.start {F : List UInt8 → List UInt8} (hF : F [] = []) (A : List UInt8) (v : ByteArray) : Iv F A v 0 0 A := ⟨by simp [hF], Nat.le_refl _, Nat.zero_le _⟩
theorem take_at {v : ByteArray} {k : Nat} (h : k < v.size) : (bl v).take (k + 1) = (bl v).take k ++ [v[k]] := by
  rw [List.take_succ_eq_append_getElem (by rw [← P.sz]; exact h)]; rfl
theorem Iv.same {F : List UInt8 → List UInt8} {A : List UInt8} {v : ByteArray} {off idx : Nat} {m : List UInt8} (h : Iv F A v off idx m) (hi : idx < v.size) (hF : F ((bl v).take (idx + 1)) = F ((bl v).take idx) ++ [v[idx]]) : Iv F A v off (idx + 1) m := by
  refine ⟨?_, by have := h.le; omega, hi⟩
  rw [hF, take_at hi, List.drop_append_of_le_length (by rw [List.length_take, ← P.sz]; have := h.le; omega), ← List.append_assoc, h.eq, List.append_assoc]
/-- A byte that F turns: what was left is written, then X; behind it off is the next byte. -/
theorem Iv.turn {F : List UInt8 → List UInt8} {A X : List UInt8} {v : ByteArray} {off idx : Nat} {m m' : List UInt8} (h : Iv F A v off idx m) (hi : idx < v.size) (hF : F ((bl v).take (idx + 1)) = F ((bl v).take idx) ++ X) (hm : m' = m ++ ((bl v).take idx).drop off ++ X) : Iv F A v (idx + 1) (idx + 1) m' := by
  refine ⟨?_, Nat.le_refl _, hi⟩
  rw [hm, h.eq, hF, List.drop_of_length_le (by rw [List.length_take]; omega), List.append_nil, List.append_assoc]
/-- A byte ahead of which F lays another: what was left is written, then that one; the byte itself is left. -/
theorem Iv.ahead {F : List UInt8 → List UInt8} {A : List UInt8} {v : ByteArray} {off idx : Nat} {m m' : List UInt8} {c : UInt8} (h : Iv F A v off idx m) (hi : idx < v.size) (hF : F ((bl v).take (idx + 1)) = F ((bl v).take idx) ++ [c, v[idx]]) (hm : m' = m ++ ((bl v).take idx).drop off ++ [c]) : Iv F A v idx (idx + 1) m' := by
  refine ⟨?_, Nat.le_succ _, hi⟩
  have e : ((bl v).take (idx + 1)).drop idx = [v[idx]] := by
    rw [take_at hi, List.drop_append_of_le_length (by rw [List.length_take, ← P.sz]; omega), List.drop_of_length_le (by rw [List.length_take]; omega), List.nil_append]
  rw [e, hm, h.eq, hF]
  simp
theorem Iv.done_ {F : List UInt8 → List UInt8} {A : List UInt8} {v : ByteArray} {off : Nat} {m : List UInt8} (h : Iv F A v off v.size m) : m ++ (bl v).drop off = A ++ F (bl v) := by
  have := h.eq
  rw [List.take_of_length_le (by rw [← P.sz]; exact Nat.le_refl _)] at this
  exact this
theorem Iv.len {F : List UInt8 → List UInt8} {A : List UInt8} {v : ByteArray} {off idx : Nat} {m : List UInt8} (h : Iv F A v off idx m) (hF : ∀ l, (F l).length ≤ 3 * l.length) : m.length ≤ A.length + 3 * v.size := by
  have h1 := congrArg List.length h.eq
  rw [List.length_append, List.length_append] at h1
  have h2 := hF ((bl v).take idx)
  rw [List.length_take] at h2
  have h3 := P.sz v
  omega
theorem esc_at {v : ByteArray} {k : Nat} (h : k < v.size) : esc ((bl v).take (k + 1)) = esc ((bl v).take k) ++ esc1 v[k] := by rw [take_at h, esc_snoc]
theorem qb_at {v : ByteArray} {k : Nat} (h : k < v.size) : qb ((bl v).take (k + 1)) = qb ((bl v).take k) ++ qb [v[k]] := by rw [take_at h, qb_append]
theorem esc_le3 (l : List UInt8) : (esc l).length ≤ 3 * l.length := by
  rw [esc_len]; have := pct_le l; omega
theorem qb_le3 (l : List UInt8) : (qb l).length ≤ 3 * l.length := by
  have := Z.qb_le l; omega
theorem dig (n : Nat) (h : n < (⟨#[48, 49, 50, 51, 52, 53, 54, 55, 56, 57, 65, 66, 67, 68, 69, 70]⟩ : ByteArray).size) : UInt8.ofNat ((⟨#[48, 49, 50, 51, 52, 53, 54, 55, 56, 57, 65, 66, 67, 68, 69, 70]⟩ : ByteArray)[n]'h).toNat = hx n := by
  have h' : n < 16 := h
  have : n = 0 ∨ n = 1 ∨ n = 2 ∨ n = 3 ∨ n = 4 ∨ n = 5 ∨ n = 6 ∨ n = 7 ∨ n = 8 ∨ n = 9 ∨ n = 10 ∨ n = 11 ∨ n = 12 ∨ n = 13 ∨ n = 14 ∨ n = 15 := by omega
  rcases this with rfl | rfl | rfl | rfl | rfl | rfl | rfl | rfl | rfl | rfl | rfl | rfl | rfl | rfl | rfl | rfl <;> rfl
/-- The head: the type in small letters, at a slash in two parts. -/
theorem head_cut (t : ByteArray) (ht : isType t = true) (hs : t.size ≤ 16777216) : ∃ (mj sb : ByteArray) (ok : Bool), Gives 47 #[.string t, .string ⟨#[47]⟩] (.tuple #[.string mj, .string sb, .bool ok]) ∧
    (ok = false → isTok t = true) ∧ (ok = true → isTok mj = true ∧ isTok sb = true ∧ mj.size ≤ 16777216 ∧ sb.size ≤ 16777216 ∧ bl (lower mj) ++ [47] ++ bl (lower sb) = bl (lower t)) := by
  obtain ⟨a, b, hab, ha, hb⟩ := (typeL_iff t).1 ht
  have hna : (47 : UInt8) ∉ a := fun h => by
    have := ha.2 _ h
    rw [tok47] at this; cases this
  rcases hb with rfl | ⟨r, rfl, hr⟩
  · rw [List.append_nil] at hab
    refine ⟨_, _, false, g_cutNo t 47 (by omega) (by rw [hab]; exact hna), fun _ => (tokL_iff t).2 (by rw [hab]; exact ha), by intro h; cases h⟩
  · have h1 := P.sz t
    rw [hab, List.length_append, List.length_cons] at h1
    refine ⟨tx a, tx r, true, g_cutAt t 47 a r (by omega) hab hna, by (intro h; cases h), fun _ => ⟨bytes_tok ha.1 ha.2, bytes_tok hr.1 hr.2, by rw [size_tx]; omega, by rw [size_tx]; omega, ?_⟩⟩
    rw [lower_bl, lower_bl, lower_bl, bl_tx, bl_tx, hab, List.map_append, List.map_cons]
    have e : low 47 = 47 := by decide
    rw [e]
    simp
theorem tok_ascii {s : ByteArray} (h : isTok s = true) : ∀ c ∈ bl s, c.toNat < 128 := fun c hc => by
  have := (tok_all h).2 c hc
  simp [tokB] at this
  omega
end Go.Proofs.YtbklpdcipfhdjaaGreatDoor.Fs
