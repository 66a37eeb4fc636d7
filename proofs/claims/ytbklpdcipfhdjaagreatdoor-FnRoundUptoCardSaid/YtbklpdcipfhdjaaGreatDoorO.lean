/- The walks of consumeValue: at a quoted text, at one that is not closed, and at a token. -/
import Derived.Test.YtbklpdcipfhdjaaGreatDoorN
import Derived.Test.YtbklpdcipfhdjaaGreatDoorBd
namespace Go.Proofs.YtbklpdcipfhdjaaGreatDoor.O
open Go.RowKit Go.Proofs.YtbklpdcipfhdjaaGreatDoor.A Go.Proofs.YtbklpdcipfhdjaaGreatDoor.C Go.Proofs.YtbklpdcipfhdjaaGreatDoor.D Go.Proofs.YtbklpdcipfhdjaaGreatDoor.E Go.Proofs.YtbklpdcipfhdjaaGreatDoor.F Go.Proofs.YtbklpdcipfhdjaaGreatDoor.P Go.Proofs.YtbklpdcipfhdjaaGreatDoor.J Go.Proofs.YtbklpdcipfhdjaaGreatDoor.Bd

theorem at_of {s : ByteArray} {p r : List UInt8} {c : UInt8} (h : bl s = p ++ c :: r) : ∃ h : p.length < s.size, s[p.length] = c := by
  have hlt : p.length < s.size := by rw [sz, h]; simp
  refine ⟨hlt, ?_⟩
  have e : s[p.length] = (bl s)[p.length]'(by rw [← sz]; exact hlt) := rfl
  rw [e]
  simp [h]
theorem at_k {s : ByteArray} {p r : List UInt8} {c : UInt8} {k : Nat} (h : bl s = p ++ c :: r) (hk : k = p.length) : ∃ h : k < s.size, s[k] = c := by
  subst hk; exact at_of h
theorem drop_k {s : ByteArray} {p r : List UInt8} {k : Nat} (h : bl s = p ++ r) (hk : k = p.length) : s.extract k s.size = tx r := by
  apply eq_of_bl
  show _ = r
  unfold bl at h ⊢
  rw [ext_all, h, hk, List.drop_left]

/-- So far a has been read. -/
def Qs (val : List UInt8) (w : World) (k : Nat) (wr : World) : Prop := ∃ a b, val = a ++ b ∧ k = 1 + (qb a).length ∧ Bd w.heap.size w.heap.size a wr ∧ Below w.heap.size w wr

theorem Qs.start (val : List UInt8) (w : World) : Qs val w 1 (w.alloc (.cells #[.pointer none, .slice none 0 0] 77)) :=
  ⟨[], val, rfl, rfl, fresh w, (Below.refl _ w).alloc (Nat.le_refl _) _⟩

theorem Wr_below {B b : Nat} {w w' : World} (h : Wr B b w w') : Below B w w' := h.below

set_option maxHeartbeats 4000000 in
set_option maxRecDepth 100000 in
theorem value_quoted (s : ByteArray) (val rest : List UInt8) (w : World) (hs : s.size ≤ 1099511627776) (hl : bl s = quoteL val ++ rest) (hok : val.all okb = true) :
    Calls Tryz.prog 81 #[.string s] w fun e w' => e = .returned (.tuple #[.string (tx val), .string (tx rest)]) ∧ Below w.heap.size w w' := by
  have hl2 : bl s = 34 :: (qb val ++ 34 :: rest) := by rw [hl]; unfold quoteL; simp
  obtain ⟨h0, h34⟩ := at_of (p := []) hl2
  have hsz : s.size = (qb val).length + rest.length + 2 := by rw [sz, hl2]; simp; omega
  have hne : s.toList.isEmpty = false := emp_no h0
  have b0 : ((s[0].toNat : Int) != 34) = false := by rw [show s[0] = 34 from h34]; rfl
  have HL := Lib.hid hl2
  have HO := Lib.hid hok
  have HSZ := Lib.hid hsz
  clear hl hl2 hok h34 hsz
  go_enter Tryz.func81, Tryz.ntmps81
  go_wp2_with fail
  go_loopw [5] (fun i wr => ∃ k : Nat, k < s.size ∧ i = .int .i64 k ∧ Hid (Qs val w k wr)) (fun i _ => s.size - (intOf i).toNat)
  case atStart => exact ⟨1, by have := HSZ.out; omega, rfl, Lib.hid (Qs.start val w)⟩
  case round =>
    obtain ⟨k, hk, rfl, H⟩ := hrel
    obtain ⟨a, b, hab, hka, hbd, hbel⟩ := H.out
    have hBw : w.heap.size ≤ wr.heap.size := Nat.le_of_lt hbd.lt
    have hal : a.length ≤ 1099511627776 := by
      have h1 := HSZ.out; have h2 := qb_length_ge val; rw [hab] at h2; simp at h2; rw [← hab] at h2; omega
    cases b with
    | nil =>
      have hb1 : bl s = (34 :: qb a) ++ 34 :: rest := by rw [HL.out, hab]; simp
      obtain ⟨hk2, hc⟩ := at_k (k := k) hb1 (by simp; omega)
      have hb2 : bl s = (34 :: (qb a ++ [34])) ++ rest := by rw [hb1]; simp
      have hd := drop_k (k := k + 1) hb2 (by simp; omega)
      have b34 : ((s[k].toNat : Int) == 34) = true := by rw [hc]; rfl
      have hva : val = a := by rw [hab]; simp
      have G : Hid (s.extract (k + 1) s.size = tx rest ∧ tx a = tx val) := Lib.hid ⟨hd, by rw [hva]⟩
      have HB := Lib.hid hbd
      have HW := Lib.hid hbel
      have j1 : (0 : Int) ≤ (k : Int) + 1 := by omega
      have j2 : (k : Int) + 1 ≤ (s.size : Int) := by omega
      have e1 : IntKind.i64.wrap ((k : Int) + 1) = (k : Int) + 1 := by rw [IntKind.wrap_i64]; omega
      clear hab hka hb1 hb2 hd hc hva hbd hbel H
      go_wp2_with fail
      go_region_with (go_at_call 59; refine (Tryz.Builder_String_any_k w.heap.size w.heap.size a _ (by exact HB.out) (by first | exact hBw | simpa using hBw)).mono ?_; rintro e1 w1 ⟨rfl, q1, q2, q3⟩)
      all_goals go_wp2_with fail
      all_goals go_ret2
      all_goals refine ⟨by rw [G.out.1, ← G.out.2]; rfl, ?_⟩
      all_goals have hh := HW.out.trans ⟨q2.os, q2.tape, q2.output, q2.size, q2.block⟩
      all_goals exact ⟨hh.os, hh.tape, hh.output, hh.size, hh.block⟩
    | cons c b' =>
      by_cases hsp : c = 92 ∨ c = 34
      · have hq : qb val = qb a ++ (92 :: c :: qb b') := by rw [hab, qb_append]; simp only [qb]; rw [if_pos hsp]
        have hb1 : bl s = (34 :: qb a) ++ 92 :: (c :: (qb b' ++ 34 :: rest)) := by rw [HL.out, hq]; simp
        have hb2 : bl s = (34 :: (qb a ++ [92])) ++ c :: (qb b' ++ 34 :: rest) := by rw [hb1]; simp
        obtain ⟨hk2, hc⟩ := at_k (k := k) hb1 (by simp; omega)
        obtain ⟨hk3, hc3⟩ := at_k (k := k + 1) hb2 (by simp; omega)
        have hk4 : k + 2 < s.size := by
          have h1 := congrArg List.length hb2
          rw [← sz] at h1; simp at h1; omega
        have b34 : ((s[k].toNat : Int) == 34) = false := by rw [hc]; rfl
        have b92 : ((s[k].toNat : Int) == 92) = true := by rw [hc]; rfl
        have bd := s[k + 1].toNat_lt
        have hsc : spcl s[k + 1].toNat = true := by rw [hc3]; rcases hsp with rfl | rfl <;> decide
        have hS := special_any s[k + 1].toNat bd wr
        rw [hsc] at hS
        have HS := Lib.hid hS
        have HWB := Lib.hid (WriteByte_any _ _ a s[k + 1].toNat bd wr hbd (by omega) hBw)
        have HQ : Hid (∀ W, Bd w.heap.size w.heap.size (a ++ [UInt8.ofNat s[k + 1].toNat]) W → Wr w.heap.size w.heap.size wr W → Qs val w (k + 2) W) := by
          refine Lib.hid fun W h1 h2 => ⟨a ++ [c], b', by rw [hab]; simp, ?_, ?_, hbel.trans h2.below⟩
          · rw [qb_append]; simp only [qb]; rw [if_pos hsp]; simp; omega
          · rw [hc3] at h1; simpa using h1
        have j0 : (0 : Int) ≤ (k : Int) + 1 := by omega
        have e1 : IntKind.i64.wrap ((k : Int) + 1) = (k : Int) + 1 := by rw [IntKind.wrap_i64]; omega
        have e2 : IntKind.i64.wrap ((k : Int) + 1 + 1) = ((k + 2 : Nat) : Int) := by rw [IntKind.wrap_i64]; omega
        clear hab hka hq hb1 hb2 hc hc3 hsc hS hsp hbd hbel H
        go_wp2_with fail
        refine HS.out.mono ?_
        rintro r w1 ⟨rfl, rfl⟩
        go_wp2_with fail
        refine HWB.out.mono ?_
        rintro r w1 ⟨rfl, h1, h2⟩
        have G := Lib.hid (HQ.out w1 h1 h2)
        clear h1 h2
        go_wp2_with fail
        exact ⟨⟨k + 2, hk4, by go_num, G⟩, by simp [intOf]; omega⟩
      · have hq : qb val = qb a ++ (c :: qb b') := by rw [hab, qb_append]; simp only [qb]; rw [if_neg hsp]
        have hb1 : bl s = (34 :: qb a) ++ c :: (qb b' ++ 34 :: rest) := by rw [HL.out, hq]; simp
        obtain ⟨hk2, hc⟩ := at_k (k := k) hb1 (by simp; omega)
        have hk4 : k + 1 < s.size := by
          have h1 := congrArg List.length hb1
          rw [← sz] at h1; simp at h1; omega
        have hcok : okb c = true := List.all_eq_true.1 HO.out c (by rw [hab]; simp)
        have hcn : c.toNat ≠ 92 ∧ c.toNat ≠ 34 ∧ c.toNat ≠ 13 ∧ c.toNat ≠ 10 := by
          refine ⟨fun e => hsp (.inl (UInt8.toNat_inj.1 (by simpa using e))), fun e => hsp (.inr (UInt8.toNat_inj.1 (by simpa using e))), ?_, ?_⟩ <;> (intro e; simp [okb] at hcok; omega)
        have b34 : ((s[k].toNat : Int) == 34) = false := by rw [hc, beq_eq_false_iff_ne]; omega
        have b92 : ((s[k].toNat : Int) == 92) = false := by rw [hc, beq_eq_false_iff_ne]; omega
        have b13 : ((s[k].toNat : Int) == 13) = false := by rw [hc, beq_eq_false_iff_ne]; omega
        have b10 : ((s[k].toNat : Int) == 10) = false := by rw [hc, beq_eq_false_iff_ne]; omega
        have bd := s[k].toNat_lt
        have HWB := Lib.hid (WriteByte_any _ _ a s[k].toNat bd wr hbd (by omega) hBw)
        have HQ : Hid (∀ W, Bd w.heap.size w.heap.size (a ++ [UInt8.ofNat s[k].toNat]) W → Wr w.heap.size w.heap.size wr W → Qs val w (k + 1) W) := by
          refine Lib.hid fun W h1 h2 => ⟨a ++ [c], b', by rw [hab]; simp, ?_, ?_, hbel.trans h2.below⟩
          · rw [qb_append]; simp only [qb]; rw [if_neg hsp]; simp; omega
          · rw [hc] at h1; simpa using h1
        clear hab hka hq hb1 hc hcok hcn hsp hbd hbel H
        go_wp2_with fail
        refine HWB.out.mono ?_
        rintro r w1 ⟨rfl, h1, h2⟩
        have G := Lib.hid (HQ.out w1 h1 h2)
        clear h1 h2
        go_wp2_with fail
        exact ⟨⟨k + 1, hk4, by go_num, G⟩, by simp [intOf]; omega⟩

set_option maxHeartbeats 4000000 in
set_option maxRecDepth 100000 in
theorem value_open (s : ByteArray) (val : List UInt8) (w : World) (hs : s.size ≤ 1099511627776) (hl2 : bl s = 34 :: qb val) (hok : val.all okb = true) :
    Calls Tryz.prog 81 #[.string s] w fun e w' => e = .returned (.tuple #[.string ⟨#[]⟩, .string s]) ∧ Below w.heap.size w w' := by
  obtain ⟨h0, h34⟩ := at_of (p := []) hl2
  have hsz : s.size = (qb val).length + 1 := by rw [sz, hl2]; simp
  have hne : s.toList.isEmpty = false := emp_no h0
  have b0 : ((s[0].toNat : Int) != 34) = false := by rw [show s[0] = 34 from h34]; rfl
  have HL := Lib.hid hl2
  have HO := Lib.hid hok
  have HSZ := Lib.hid hsz
  clear hl2 hok h34 hsz
  go_enter Tryz.func81, Tryz.ntmps81
  go_wp2_with fail
  go_loopw [5] (fun i wr => ∃ k : Nat, k ≤ s.size ∧ i = .int .i64 k ∧ Hid (Qs val w k wr)) (fun i _ => s.size - (intOf i).toNat)
  case atStart => exact ⟨1, by have := HSZ.out; omega, rfl, Lib.hid (Qs.start val w)⟩
  case round =>
    obtain ⟨k, hk, rfl, H⟩ := hrel
    obtain ⟨a, b, hab, hka, hbd, hbel⟩ := H.out
    have hBw : w.heap.size ≤ wr.heap.size := Nat.le_of_lt hbd.lt
    have hal : a.length ≤ 1099511627776 := by
      have h1 := HSZ.out; have h2 := qb_length_ge val; rw [hab] at h2; simp at h2; rw [← hab] at h2; omega
    cases b with
    | nil =>
      have hk2 : k = s.size := by have := HSZ.out; rw [hab, List.append_nil] at this; omega
      have HW := Lib.hid hbel
      clear hab hka hbd hbel H
      go_wp2_with fail
      go_ret2
      exact ⟨rfl, HW.out⟩
    | cons c b' =>
      by_cases hsp : c = 92 ∨ c = 34
      · have hq : qb val = qb a ++ (92 :: c :: qb b') := by rw [hab, qb_append]; simp only [qb]; rw [if_pos hsp]
        have hb1 : bl s = (34 :: qb a) ++ 92 :: (c :: (qb b')) := by rw [HL.out, hq]; simp
        have hb2 : bl s = (34 :: (qb a ++ [92])) ++ c :: (qb b') := by rw [hb1]; simp
        obtain ⟨hk2, hc⟩ := at_k (k := k) hb1 (by simp; omega)
        obtain ⟨hk3, hc3⟩ := at_k (k := k + 1) hb2 (by simp; omega)
        have hk4 : k + 2 ≤ s.size := by
          have h1 := congrArg List.length hb2
          rw [← sz] at h1; simp at h1; omega
        have b34 : ((s[k].toNat : Int) == 34) = false := by rw [hc]; rfl
        have b92 : ((s[k].toNat : Int) == 92) = true := by rw [hc]; rfl
        have bd := s[k + 1].toNat_lt
        have hsc : spcl s[k + 1].toNat = true := by rw [hc3]; rcases hsp with rfl | rfl <;> decide
        have hS := special_any s[k + 1].toNat bd wr
        rw [hsc] at hS
        have HS := Lib.hid hS
        have HWB := Lib.hid (WriteByte_any _ _ a s[k + 1].toNat bd wr hbd (by omega) hBw)
        have HQ : Hid (∀ W, Bd w.heap.size w.heap.size (a ++ [UInt8.ofNat s[k + 1].toNat]) W → Wr w.heap.size w.heap.size wr W → Qs val w (k + 2) W) := by
          refine Lib.hid fun W h1 h2 => ⟨a ++ [c], b', by rw [hab]; simp, ?_, ?_, hbel.trans h2.below⟩
          · rw [qb_append]; simp only [qb]; rw [if_pos hsp]; simp; omega
          · rw [hc3] at h1; simpa using h1
        have j0 : (0 : Int) ≤ (k : Int) + 1 := by omega
        have e1 : IntKind.i64.wrap ((k : Int) + 1) = (k : Int) + 1 := by rw [IntKind.wrap_i64]; omega
        have e2 : IntKind.i64.wrap ((k : Int) + 1 + 1) = ((k + 2 : Nat) : Int) := by rw [IntKind.wrap_i64]; omega
        clear hab hka hq hb1 hb2 hc hc3 hsc hS hsp hbd hbel H
        go_wp2_with fail
        refine HS.out.mono ?_
        rintro r w1 ⟨rfl, rfl⟩
        go_wp2_with fail
        refine HWB.out.mono ?_
        rintro r w1 ⟨rfl, h1, h2⟩
        have G := Lib.hid (HQ.out w1 h1 h2)
        clear h1 h2
        go_wp2_with fail
        exact ⟨⟨k + 2, hk4, by go_num, G⟩, by simp [intOf]; omega⟩
      · have hq : qb val = qb a ++ (c :: qb b') := by rw [hab, qb_append]; simp only [qb]; rw [if_neg hsp]
        have hb1 : bl s = (34 :: qb a) ++ c :: (qb b') := by rw [HL.out, hq]; simp
        obtain ⟨hk2, hc⟩ := at_k (k := k) hb1 (by simp; omega)
        have hk4 : k + 1 ≤ s.size := by
          have h1 := congrArg List.length hb1
          rw [← sz] at h1; simp at h1; omega
        have hcok : okb c = true := List.all_eq_true.1 HO.out c (by rw [hab]; simp)
        have hcn : c.toNat ≠ 92 ∧ c.toNat ≠ 34 ∧ c.toNat ≠ 13 ∧ c.toNat ≠ 10 := by
          refine ⟨fun e => hsp (.inl (UInt8.toNat_inj.1 (by simpa using e))), fun e => hsp (.inr (UInt8.toNat_inj.1 (by simpa using e))), ?_, ?_⟩ <;> (intro e; simp [okb] at hcok; omega)
        have b34 : ((s[k].toNat : Int) == 34) = false := by rw [hc, beq_eq_false_iff_ne]; omega
        have b92 : ((s[k].toNat : Int) == 92) = false := by rw [hc, beq_eq_false_iff_ne]; omega
        have b13 : ((s[k].toNat : Int) == 13) = false := by rw [hc, beq_eq_false_iff_ne]; omega
        have b10 : ((s[k].toNat : Int) == 10) = false := by rw [hc, beq_eq_false_iff_ne]; omega
        have bd := s[k].toNat_lt
        have HWB := Lib.hid (WriteByte_any _ _ a s[k].toNat bd wr hbd (by omega) hBw)
        have HQ : Hid (∀ W, Bd w.heap.size w.heap.size (a ++ [UInt8.ofNat s[k].toNat]) W → Wr w.heap.size w.heap.size wr W → Qs val w (k + 1) W) := by
          refine Lib.hid fun W h1 h2 => ⟨a ++ [c], b', by rw [hab]; simp, ?_, ?_, hbel.trans h2.below⟩
          · rw [qb_append]; simp only [qb]; rw [if_neg hsp]; simp; omega
          · rw [hc] at h1; simpa using h1
        clear hab hka hq hb1 hc hcok hcn hsp hbd hbel H
        go_wp2_with fail
        refine HWB.out.mono ?_
        rintro r w1 ⟨rfl, h1, h2⟩
        have G := Lib.hid (HQ.out w1 h1 h2)
        clear h1 h2
        go_wp2_with fail
        exact ⟨⟨k + 1, hk4, by go_num, G⟩, by simp [intOf]; omega⟩

set_option maxHeartbeats 1000000 in
set_option maxRecDepth 100000 in
theorem value_token (s : ByteArray) (n r : List UInt8) (w : World) (hs : s.size ≤ 1099511627776) (hl : bl s = n ++ r) (h0 : 0 < n.length) (hn : ∀ c ∈ n, tokB c.toNat = true) (hr : ∀ c, r.head? = some c → tokB c.toNat = false) :
    Calls Tryz.prog 81 #[.string s] w fun e w' => e = .returned (.tuple #[.string (tx n), .string (tx r)]) ∧ Below w.heap.size w w' := by
  cases n with
  | nil => simp at h0
  | cons c n =>
    obtain ⟨h0', hc⟩ := at_of (p := []) hl
    have hne : s.toList.isEmpty = false := emp_no h0'
    have htc := hn c (by simp)
    have b0 : ((s[0].toNat : Int) != 34) = true := by
      rw [show s[0] = c from hc, bne_iff_ne]; intro e
      have : c.toNat = 34 := by omega
      rw [this] at htc; exact absurd htc (by decide)
    have htl : tokS s = (c :: n).length := by
      have := tl_tok (c :: n) r hn hr
      unfold tokS; unfold bl at hl; rw [hl]; exact this
    have hct := consumeToken_any s w hs
    have HX : Hid (∀ e w', Cut s (tokS s) w e w' → e = .returned (.tuple #[.string (tx (c :: n)), .string (tx r)]) ∧ ∃ q, w' = w.drewN q) := by
      refine Lib.hid fun e w' ⟨a, b, h1, h2, h3, q⟩ => ?_
      rw [htl] at h2 h3
      unfold bl at hl
      rw [hl, List.take_left] at h2
      rw [hl, List.drop_left] at h3
      refine ⟨?_, q⟩
      rw [h1, show a = tx (c :: n) from eq_of_bl h2, show b = tx r from eq_of_bl h3]
    have HC := Lib.hid (hct.mono HX.out)
    clear hct hl hn hr htl htc hc h0 HX
    go_enter Tryz.func81, Tryz.ntmps81
    go_wp2_with fail
    refine HC.out.mono ?_
    rintro e w' ⟨rfl, q, rfl⟩
    go_wp2_with fail
    go_ret2
    exact ⟨rfl, rfl, rfl, rfl, Nat.le_refl _, fun _ _ => rfl⟩

end Go.Proofs.YtbklpdcipfhdjaaGreatDoor.O
