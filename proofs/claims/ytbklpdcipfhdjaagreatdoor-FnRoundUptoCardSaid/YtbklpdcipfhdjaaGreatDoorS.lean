/- What a type is made of; zzCut at one byte, and the check of the type, as they are used. -/
import Derived.Test.YtbklpdcipfhdjaaGreatDoorR
namespace Go.Proofs.YtbklpdcipfhdjaaGreatDoor.S
open Go.RowKit Go.Proofs.YtbklpdcipfhdjaaGreatDoor.A Go.Proofs.YtbklpdcipfhdjaaGreatDoor.C Go.Proofs.YtbklpdcipfhdjaaGreatDoor.D Go.Proofs.YtbklpdcipfhdjaaGreatDoor.E Go.Proofs.YtbklpdcipfhdjaaGreatDoor.F Go.Proofs.YtbklpdcipfhdjaaGreatDoor.G Go.Proofs.YtbklpdcipfhdjaaGreatDoor.H Go.Proofs.YtbklpdcipfhdjaaGreatDoor.I Go.Proofs.YtbklpdcipfhdjaaGreatDoor.P Go.Proofs.YtbklpdcipfhdjaaGreatDoor.J Go.Proofs.YtbklpdcipfhdjaaGreatDoor.N Go.Proofs.YtbklpdcipfhdjaaGreatDoor.O Go.Proofs.YtbklpdcipfhdjaaGreatDoor.Q Go.Proofs.YtbklpdcipfhdjaaGreatDoor.R

/-- A token, as bytes. -/
def TokL (l : List UInt8) : Prop := l ≠ [] ∧ ∀ c ∈ l, tokB c.toNat = true
theorem tokL_iff (s : ByteArray) : isTok s = true ↔ TokL (bl s) := by
  constructor
  · intro h
    obtain ⟨h1, h2⟩ := tok_all h
    exact ⟨fun e => by rw [e] at h1; simp at h1, h2⟩
  · rintro ⟨h1, h2⟩
    unfold isTok
    rw [Bool.and_eq_true, decide_eq_true_eq, beq_iff_eq, sz]
    refine ⟨List.length_pos_iff.2 h1, ?_⟩
    exact tl_all _ h2

/-- A type, as bytes. -/
def TypeL (l : List UInt8) : Prop := ∃ a b, l = a ++ b ∧ TokL a ∧ (b = [] ∨ ∃ r, b = 47 :: r ∧ TokL r)
theorem tok47 : tokB (47 : UInt8).toNat = false := by decide
theorem typeL_iff (s : ByteArray) : isType s = true ↔ TypeL (bl s) := by
  have hle := tokS_le s
  have hsp : (bl s).take (tokS s) = (bl s).takeWhile fun x => tokB x.toNat := by
    have := List.takeWhile_prefix (fun x : UInt8 => tokB x.toNat) (l := bl s)
    exact (List.prefix_iff_eq_take.1 this).symm
  constructor
  · intro h
    unfold isType at h
    rw [Bool.and_eq_true, decide_eq_true_eq, Bool.or_eq_true, beq_iff_eq] at h
    obtain ⟨h0, h1⟩ := h
    refine ⟨(bl s).take (tokS s), (bl s).drop (tokS s), (List.take_append_drop _ _).symm, ⟨?_, ?_⟩, ?_⟩
    · intro e
      have := congrArg List.length e
      rw [List.length_take, ← sz, List.length_nil] at this
      omega
    · intro c hc
      rw [hsp] at hc
      exact List.all_eq_true.1 (List.all_takeWhile (p := fun x : UInt8 => tokB x.toNat) (l := bl s)) c hc
    · rcases h1 with h1 | h1
      · left
        exact List.drop_eq_nil_of_le (by rw [← sz]; omega)
      · right
        by_cases hlt : tokS s < s.size
        · rw [dif_pos hlt, Bool.and_eq_true, beq_iff_eq] at h1
          refine ⟨(bl s).drop (tokS s + 1), ?_, ?_⟩
          · rw [List.drop_eq_getElem_cons (by rw [← sz]; exact hlt)]
            have : (bl s)[tokS s]'(by rw [← sz]; exact hlt) = 47 := h1.1
            rw [this]
          · have := (tokL_iff _).1 h1.2
            unfold bl at this
            rw [ext_all] at this
            exact this
        · rw [dif_neg hlt] at h1; cases h1
  · rintro ⟨a, b, hab, ⟨ha0, ha⟩, hb⟩
    have hk : tokS s = a.length := by
      show tl (bl s) = _
      rw [hab]
      refine tl_tok a b ha ?_
      intro c hc
      rcases hb with rfl | ⟨r, rfl, _⟩
      · simp at hc
      · simp at hc; subst hc; exact tok47
    have ha1 : 0 < a.length := List.length_pos_iff.2 ha0
    unfold isType
    rw [Bool.and_eq_true, decide_eq_true_eq, Bool.or_eq_true, beq_iff_eq]
    refine ⟨by omega, ?_⟩
    rcases hb with rfl | ⟨r, rfl, hr⟩
    · left; rw [hk, sz, hab, List.append_nil]
    · right
      obtain ⟨hlt, hc⟩ := at_k (k := tokS s) hab hk
      rw [dif_pos hlt, Bool.and_eq_true, beq_iff_eq]
      refine ⟨hc, (tokL_iff _).2 ?_⟩
      unfold bl
      rw [ext_all, hk]
      have : bl s = (a ++ [47]) ++ r := by rw [hab]; simp
      unfold bl at this
      rw [this, List.drop_left' (by simp)]
      exact hr

theorem low_tok : ∀ c : UInt8, tokB (low c).toNat = tokB c.toNat := by
  intro c
  have : ∀ n, n < 256 → tokB (low (UInt8.ofNat n)).toNat = tokB (UInt8.ofNat n).toNat := by decide +kernel
  simpa using this c.toNat c.toNat_lt
theorem low_blk {c : UInt8} (h : blk c = true) : low c = c := by
  simp [blk] at h; rcases h with rfl | rfl <;> decide
theorem TokL.low {l : List UInt8} (h : TokL l) : TokL (l.map low) := by
  refine ⟨by simpa using h.1, fun c hc => ?_⟩
  obtain ⟨d, hd, rfl⟩ := List.mem_map.1 hc
  rw [low_tok]; exact h.2 d hd
theorem TypeL.low {l : List UInt8} (h : TypeL l) : TypeL (l.map low) := by
  obtain ⟨a, b, rfl, ha, hb⟩ := h
  refine ⟨_, _, List.map_append, ha.low, ?_⟩
  rcases hb with rfl | ⟨r, rfl, hr⟩
  · left; rfl
  · right; exact ⟨_, rfl, hr.low⟩
theorem TypeL.all {l : List UInt8} (h : TypeL l) : l ≠ [] ∧ ∀ c ∈ l, plain c = true ∧ c ≠ 59 := by
  obtain ⟨a, b, rfl, ha, hb⟩ := h
  have ht : ∀ c, tokB c.toNat = true → plain c = true ∧ c ≠ 59 := fun c hc => ⟨plain_tok hc, by rintro rfl; revert hc; decide⟩
  refine ⟨fun e => ha.1 (List.append_eq_nil_iff.1 e).1, fun c hc => ?_⟩
  rcases List.mem_append.1 hc with h | h
  · exact ht c (ha.2 c h)
  · rcases hb with rfl | ⟨r, rfl, hr⟩
    · simp at h
    · rcases List.mem_cons.1 h with rfl | h
      · decide
      · exact ht c (hr.2 c h)

theorem drop_take_one {s : ByteArray} {c : UInt8} (i : Nat) (h : c ∉ (bl s).take (i + 1)) (hi : i + 1 ≤ s.size) : ((bl s).drop i).take 1 ≠ [c] := by
  intro e
  apply h
  have hlt : i < (bl s).length := by rw [← sz]; omega
  rw [List.drop_eq_getElem_cons hlt] at e
  have e2 : (bl s)[i] = c := by simpa using e
  rw [List.take_succ_eq_append_getElem hlt, e2]
  simp

theorem g_cutAt (s : ByteArray) (c : UInt8) (m r : List UInt8) (hs : s.size ≤ 1099511627776) (hl : bl s = m ++ c :: r) (hm : c ∉ m) :
    Gives 47 #[.string s, .string ⟨#[c]⟩] (.tuple #[.string (tx m), .string (tx r), .bool true]) := by
  intro W
  have hsz : s.size = m.length + r.length + 1 := by rw [sz, hl]; simp; omega
  refine (zzCut_at s ⟨#[c]⟩ W hs (by show 1 ≤ _; decide) m.length (by show m.length + 1 ≤ _; omega) ?_ ?_).mono ?_
  · show ((bl s).drop m.length).take 1 = [c]
    rw [hl, List.drop_left]; rfl
  · intro i hi
    refine drop_take_one i (fun h => hm ?_) (by omega)
    rw [hl, List.take_append_of_le_length (by omega)] at h
    exact List.mem_of_mem_take h
  · rintro e w' ⟨a, b, rfl, ha, hb, q, rfl⟩
    have h1 : bl a = m := by unfold bl; rw [ha]; unfold bl at hl; rw [hl, List.take_left]
    have h2 : bl b = r := by
      unfold bl; rw [hb]
      show List.drop (m.length + 1) (bl s) = r
      rw [hl, show m ++ c :: r = (m ++ [c]) ++ r by simp, List.drop_left' (by simp)]
    rw [show a = tx m from eq_of_bl h1, show b = tx r from eq_of_bl h2]
    exact ⟨rfl, rfl, rfl, rfl, Nat.le_refl _, fun _ _ => rfl⟩

theorem g_cutNo (s : ByteArray) (c : UInt8) (hs : s.size ≤ 1099511627776) (hm : c ∉ bl s) :
    Gives 47 #[.string s, .string ⟨#[c]⟩] (.tuple #[.string s, .string ⟨#[]⟩, .bool false]) := by
  intro W
  refine (zzCut_none s ⟨#[c]⟩ W hs (by show 1 ≤ _; decide) (fun i hi => drop_take_one i (fun h => hm (List.mem_of_mem_take h)) hi)).mono ?_
  rintro e w' ⟨rfl, rfl⟩
  exact ⟨rfl, Below.refl _ _⟩

theorem g_check (s : ByteArray) (hs : s.size ≤ 1099511627776) (h : isType s = true) : Gives 50 #[.string s] .nilIface := fun W => check_any s W hs h

theorem low42 : ∀ c : UInt8, low c = 42 → c = 42 := by
  intro c
  have : ∀ n, n < 256 → low (UInt8.ofNat n) = 42 → UInt8.ofNat n = 42 := by decide +kernel
  simpa using this c.toNat c.toNat_lt

end Go.Proofs.YtbklpdcipfhdjaaGreatDoor.S
