/- In plain Lean: parameters that all have one name ahead of the asterisk. In plain Lean: the text of FnContinuedExtended as written parameters, and what their map gives. -/
import Derived.Test.YtbklpdcipfhdjaaGreatDoorPn
import Derived.Test.YtbklpdcipfhdjaaGreatDoorSl
import Derived.Test.YtbklpdcipfhdjaaGreatDoorDc
namespace Go.Proofs.YtbklpdcipfhdjaaGreatDoor.Og
open Go.RowKit Go.Maps Go.Sort Go.Lib Go.Proofs.YtbklpdcipfhdjaaGreatDoor.G Go.Proofs.YtbklpdcipfhdjaaGreatDoor.H Go.Proofs.YtbklpdcipfhdjaaGreatDoor.P Go.Proofs.YtbklpdcipfhdjaaGreatDoor.Q Go.Proofs.YtbklpdcipfhdjaaGreatDoor.T Go.Proofs.YtbklpdcipfhdjaaGreatDoor.W Go.Proofs.YtbklpdcipfhdjaaGreatDoor.X Go.Proofs.YtbklpdcipfhdjaaGreatDoor.Y Go.Proofs.YtbklpdcipfhdjaaGreatDoor.Pe Go.Proofs.YtbklpdcipfhdjaaGreatDoor.E Go.Proofs.YtbklpdcipfhdjaaGreatDoor.R Go.Proofs.YtbklpdcipfhdjaaGreatDoor.Cm Go.Proofs.YtbklpdcipfhdjaaGreatDoor.Pk Go.Proofs.YtbklpdcipfhdjaaGreatDoor.Pm Go.Proofs.YtbklpdcipfhdjaaGreatDoor.Gp Go.Proofs.YtbklpdcipfhdjaaGreatDoor.Rd Go.Proofs.YtbklpdcipfhdjaaGreatDoor.Pa Go.Proofs.YtbklpdcipfhdjaaGreatDoor.Srt Go.Proofs.YtbklpdcipfhdjaaGreatDoor.Gd Go.Proofs.YtbklpdcipfhdjaaGreatDoor.Uq Go.Proofs.YtbklpdcipfhdjaaGreatDoor.It Go.Proofs.YtbklpdcipfhdjaaGreatDoor.S Go.Proofs.YtbklpdcipfhdjaaGreatDoor.C Go.Proofs.YtbklpdcipfhdjaaGreatDoor.A

theorem fold_one (b : ByteArray) : ∀ (l : List Wn) (ps : List Pr), (∀ x ∈ l, baseL x = b) → l.foldl put1 [(b, ps)] = [(b, ps ++ l.map pairL)]
  | [], ps, _ => by simp
  | x :: l, ps, h => by
    have hx : baseL x = b := h x (by simp)
    have h1 : put1 [(b, ps)] x = [(b, ps ++ [pairL x])] := by
      unfold put1
      rw [hx]
      simp
    rw [List.foldl_cons, h1, fold_one b l _ (fun y hy => h y (by simp [hy]))]
    simp
theorem groups_one {b : ByteArray} {l : List Wn} (h0 : l ≠ []) (h : ∀ x ∈ l, star x = true ∧ baseL x = b) : groups l = [(b, l.map pairL)] := by
  have hf : l.filter star = l := List.filter_eq_self.2 fun x hx => (h x hx).1
  unfold groups
  rw [hf]
  cases l with
  | nil => exact absurd rfl h0
  | cons x l =>
    have h1 : put1 [] x = [(b, [pairL x])] := by
      unfold put1
      rw [(h x (by simp)).2]
      simp
    rw [List.foldl_cons, h1, fold_one b l _ (fun y hy => (h y (by simp [hy])).2)]
    simp
theorem plains_none {l : List Wn} (h : ∀ x ∈ l, star x = true) : plains l = [] := by
  unfold plains
  rw [List.filter_eq_nil_iff.2 (fun x hx => by simp [h x hx])]
  rfl

theorem lower_append (a b : ByteArray) : lower (a ++ b) = lower a ++ lower b := by
  apply eq_of_bl
  rw [lower_bl]
  simp [bl, lower]
theorem lower_star : lower (⟨#[42]⟩ : ByteArray) = ⟨#[42]⟩ := by decide +kernel
theorem num_low (n : Nat) (h : n < 100) : lower (num n) = num n := by
  have : ∀ n, n < 100 → bl (lower (num n)) = bl (num n) := by decide +kernel
  exact eq_of_bl (this n h)
theorem num_tok (n : Nat) (h : n < 100) : ∀ c ∈ bl (num n), tokB c.toNat = true ∧ c ≠ 42 := by
  have : ∀ n, n < 100 → ∀ c ∈ bl (num n), tokB c.toNat = true ∧ c ≠ 42 := by decide +kernel
  exact this n h
theorem num_inj (n m : Nat) (h : n < 100) (k : m < 100) (e : num n = num m) : n = m := by
  have : ∀ n, n < 100 → ∀ m, m < 100 → bl (num n) = bl (num m) → n = m := by decide +kernel
  exact this n h m k (by rw [e])
/-- A name with an asterisk and what stands behind it. -/
theorem star_of {x : Wn} {name r : ByteArray} (hx : x.name = name ++ ⟨#[42]⟩ ++ r) (hn : (42 : UInt8) ∉ bl name) : star x = true ∧ baseL x = lower name := by
  have h1 : bl (lower x.name) = bl (lower name) ++ 42 :: bl (lower r) := by
    rw [hx, lower_append, lower_append, lower_star]
    simp [bl]
  have h2 : (42 : UInt8) ∉ bl (lower name) := by
    rw [lower_bl]
    intro h
    obtain ⟨d, hd, e⟩ := List.mem_map.1 h
    exact hn (low42 d e ▸ hd)
  constructor
  · unfold star; rw [h1]; simp
  · unfold baseL
    rw [h1, List.takeWhile_append_of_pos (by
      intro c hc
      rw [bne_iff_ne]
      rintro rfl
      exact h2 hc), List.takeWhile_cons_of_neg (by simp), List.append_nil, tx_bl]
theorem tok_append {a b : ByteArray} (h : isTok a = true) (k : ∀ c ∈ bl b, tokB c.toNat = true) : isTok (a ++ b) = true := by
  rw [tokL_iff] at h ⊢
  have e : bl (a ++ b) = bl a ++ bl b := by simp [bl]
  rw [e]
  refine ⟨fun e => h.1 (List.append_eq_nil_iff.1 e).1, fun c hc => ?_⟩
  rcases List.mem_append.1 hc with hc | hc
  · exact h.2 c hc
  · exact k c hc
theorem tok_star : ∀ c ∈ bl (⟨#[42]⟩ : ByteArray), tokB c.toNat = true := by decide +kernel
/-- The keys of one base are apart. -/
theorem key_split {b r q : ByteArray} (h : b ++ ⟨#[42]⟩ ++ r = b ++ ⟨#[42]⟩ ++ q) : r = q := by
  apply eq_of_bl
  have := congrArg bl h
  simp [bl] at this
  exact congrArg Array.toList this
end Go.Proofs.YtbklpdcipfhdjaaGreatDoor.Og

namespace Go.Proofs.YtbklpdcipfhdjaaGreatDoor.Px
open Go.RowKit Go.Maps Go.Sort Go.Lib Go.Proofs.YtbklpdcipfhdjaaGreatDoor.G Go.Proofs.YtbklpdcipfhdjaaGreatDoor.H Go.Proofs.YtbklpdcipfhdjaaGreatDoor.P Go.Proofs.YtbklpdcipfhdjaaGreatDoor.Q Go.Proofs.YtbklpdcipfhdjaaGreatDoor.T Go.Proofs.YtbklpdcipfhdjaaGreatDoor.W Go.Proofs.YtbklpdcipfhdjaaGreatDoor.X Go.Proofs.YtbklpdcipfhdjaaGreatDoor.Y Go.Proofs.YtbklpdcipfhdjaaGreatDoor.Pe Go.Proofs.YtbklpdcipfhdjaaGreatDoor.E Go.Proofs.YtbklpdcipfhdjaaGreatDoor.R Go.Proofs.YtbklpdcipfhdjaaGreatDoor.Cm Go.Proofs.YtbklpdcipfhdjaaGreatDoor.Pk Go.Proofs.YtbklpdcipfhdjaaGreatDoor.Pm Go.Proofs.YtbklpdcipfhdjaaGreatDoor.Gp Go.Proofs.YtbklpdcipfhdjaaGreatDoor.Rd Go.Proofs.YtbklpdcipfhdjaaGreatDoor.Pa Go.Proofs.YtbklpdcipfhdjaaGreatDoor.Srt Go.Proofs.YtbklpdcipfhdjaaGreatDoor.Gd Go.Proofs.YtbklpdcipfhdjaaGreatDoor.Uq Go.Proofs.YtbklpdcipfhdjaaGreatDoor.It Go.Proofs.YtbklpdcipfhdjaaGreatDoor.S Go.Proofs.YtbklpdcipfhdjaaGreatDoor.C Go.Proofs.YtbklpdcipfhdjaaGreatDoor.A Go.Proofs.YtbklpdcipfhdjaaGreatDoor.Og Go.Proofs.YtbklpdcipfhdjaaGreatDoor.Ec Go.Proofs.YtbklpdcipfhdjaaGreatDoor.Dc Go.Proofs.YtbklpdcipfhdjaaGreatDoor.Sl Go.Proofs.YtbklpdcipfhdjaaGreatDoor.F Go.Proofs.YtbklpdcipfhdjaaGreatDoor.Pn

/-- The beginning of the first piece: the charset and the language. -/
abbrev headL : List UInt8 := [85, 84, 70, 45, 56, 39, 101, 110, 39]
def rawL (n : Nat) (s : ByteArray) : List UInt8 := if n = 0 then headL ++ esc (bl s) else esc (bl s)
/-- The piece of number n. -/
def extW (name : ByteArray) (n : Nat) (s : ByteArray) : Wn := ⟨⟨#[]⟩, ⟨#[32]⟩, name ++ ⟨#[42]⟩ ++ (num n ++ ⟨#[42]⟩), tx (rawL n s), false⟩
def exts (name : ByteArray) : Nat → List ByteArray → List Wn
  | _, [] => []
  | n, s :: l => extW name n s :: exts name (n + 1) l
theorem exts_append (name : ByteArray) : ∀ (l m : List ByteArray) (n : Nat), exts name n (l ++ m) = exts name n l ++ exts name (n + l.length) m
  | [], m, n => by simp [exts]
  | s :: l, m, n => by
    rw [List.cons_append]
    simp only [exts]
    rw [exts_append name l m (n + 1), List.cons_append, List.length_cons, show n + 1 + l.length = n + (l.length + 1) by omega]
theorem exts_get (name : ByteArray) : ∀ (l : List ByteArray) (n i : Nat) (s : ByteArray), l[i]? = some s → (exts name n l)[i]? = some (extW name (n + i) s)
  | [], _, _, _, h => by simp at h
  | x :: l, n, 0, s, h => by simp at h; subst h; rfl
  | x :: l, n, i + 1, s, h => by
    have := exts_get name l (n + 1) i s (by simpa using h)
    rw [show n + 1 + i = n + (i + 1) by omega] at this
    simpa [exts] using this
theorem exts_mem (name : ByteArray) : ∀ (l : List ByteArray) (n : Nat) (x : Wn), x ∈ exts name n l → ∃ i s, l[i]? = some s ∧ x = extW name (n + i) s
  | [], _, _, h => by simp [exts] at h
  | s :: l, n, x, h => by
    rcases List.mem_cons.1 h with h | h
    · exact ⟨0, s, rfl, h⟩
    · obtain ⟨i, u, h1, h2⟩ := exts_mem name l (n + 1) x h
      exact ⟨i + 1, u, by simpa using h1, by rw [h2, show n + 1 + i = n + (i + 1) by omega]⟩
theorem exts_len (name : ByteArray) : ∀ (l : List ByteArray) (n : Nat), (exts name n l).length = l.length
  | [], _ => rfl
  | s :: l, n => by simp [exts, exts_len name l (n + 1)]
theorem exts_snoc {name : ByteArray} {l : List ByteArray} {k : Nat} {s : ByteArray} (h : l[k]? = some s) : exts name 0 (l.take (k + 1)) = exts name 0 (l.take k) ++ [extW name k s] := by
  have hk : k < l.length := (List.getElem?_eq_some_iff.1 h).1
  rw [Sl.take_snoc h, exts_append, List.length_take, Nat.min_eq_left (Nat.le_of_lt hk), Nat.zero_add]
  rfl
theorem ext_text (name : ByteArray) (n : Nat) (s : ByteArray) : Wn.text (extW name n s) = [59, 32] ++ bl name ++ [42] ++ bl (num n) ++ [42, 61] ++ rawL n s := by
  unfold Wn.text Wn.val extW
  simp [bl, tx]
theorem raw_tok (n : Nat) (s : ByteArray) : ∀ c ∈ rawL n s, tokB c.toNat = true := by
  intro c hc
  unfold rawL at hc
  split at hc
  · rcases List.mem_append.1 hc with h | h
    · have : ∀ c ∈ headL, tokB c.toNat = true := by decide +kernel
      exact this c h
    · exact tok_esc c h
  · exact tok_esc c hc
theorem raw_ne {n : Nat} {s : ByteArray} (h : s.size ≠ 0) : rawL n s ≠ [] := by
  have h1 : esc (bl s) ≠ [] := by
    intro e
    have h2 := esc_len (bl s)
    rw [e, ← sz] at h2
    simp at h2
    omega
  unfold rawL
  split
  · simp
  · exact h1
theorem suf_tok {n : Nat} (h : n < 100) : ∀ c ∈ bl (num n ++ ⟨#[42]⟩), tokB c.toNat = true := by
  intro c hc
  have e : bl (num n ++ ⟨#[42]⟩) = bl (num n) ++ bl ⟨#[42]⟩ := by simp [bl]
  rw [e] at hc
  rcases List.mem_append.1 hc with h1 | h1
  · exact (num_tok n h c h1).1
  · exact tok_star c h1
theorem ext_writ {name s : ByteArray} {n : Nat} (hn : isTok name = true) (h : n < 100) (hs : s.size ≠ 0) : Writ (extW name n s) := by
  have ht : isTok (tx (rawL n s)) = true := (tokL_iff _).2 ⟨by rw [bl_tx]; exact raw_ne hs, by rw [bl_tx]; exact raw_tok n s⟩
  refine ⟨rfl, rfl, tok_okb ht, .inr ht, tok_append (tok_append hn tok_star) (suf_tok h)⟩
theorem ext_name {name s : ByteArray} {n : Nat} (h : n < 100) : lower (extW name n s).name = ke (lower name) n := by
  show lower (name ++ ⟨#[42]⟩ ++ (num n ++ ⟨#[42]⟩)) = _
  rw [lower_append, lower_append, lower_append, lower_star, num_low n h]
  apply eq_of_bl
  simp [bl]
theorem ke_split (b : ByteArray) (n : Nat) : ke b n = b ++ ⟨#[42]⟩ ++ (num n ++ ⟨#[42]⟩) := by
  apply eq_of_bl
  simp [bl]
theorem bl_app (a b : ByteArray) : bl (a ++ b) = bl a ++ bl b := by simp [bl]
theorem ke_inj {b : ByteArray} {n m : Nat} (h : n < 100) (k : m < 100) (e : ke b n = ke b m) : n = m := by
  rw [ke_split, ke_split] at e
  have e2 := congrArg bl (key_split e)
  rw [bl_app, bl_app] at e2
  exact num_inj n m h k (eq_of_bl (List.append_cancel_right e2))
theorem ke_ne_kn {b : ByteArray} {n m : Nat} (h : m < 100) : ke b n ≠ kn b m := by
  intro e
  rw [ke_split] at e
  have e2 := congrArg bl (key_split e)
  rw [bl_app] at e2
  have : (42 : UInt8) ∈ bl (num m) := by rw [← e2]; simp [bl]
  exact (num_tok m h 42 this).2 rfl
theorem ke_ne_k1 {b : ByteArray} {n : Nat} : ke b n ≠ k1 b := by
  intro e
  have h := congrArg ByteArray.size e
  have h1 : (⟨#[42]⟩ : ByteArray).size = 1 := rfl
  simp only [app_size, h1] at h
  omega

theorem ext_nm {name : ByteArray} {l : List ByteArray} (hn : isTok name = true) (hl : l.length ≤ 40) (hs : ∀ s ∈ l, s.size ≠ 0) : Nm (exts name 0 l) := by
  have hi : ∀ i s, l[i]? = some s → i < 100 := fun i s h => by have := (List.getElem?_eq_some_iff.1 h).1; omega
  refine ⟨fun x hx => ?_, ?_⟩
  · obtain ⟨i, s, h1, rfl⟩ := exts_mem name l 0 x hx
    rw [Nat.zero_add]
    exact ext_writ hn (hi i s h1) (hs s (List.mem_of_getElem? h1))
  · refine List.pairwise_iff_getElem.2 ?_
    intro i j hi hj hij e0
    have e3 := congrArg some e0
    rw [← List.getElem?_eq_getElem hi, ← List.getElem?_eq_getElem hj] at e3
    rw [List.length_map, exts_len] at hi hj
    have e1 : ∀ k (hk : k < l.length), ((exts name 0 l).map fun x => lower x.name)[k]? = some (ke (lower name) k) := by
      intro k hk
      rw [List.getElem?_map, exts_get name l 0 k l[k] (List.getElem?_eq_getElem hk)]
      simp only [Option.map_some, Nat.zero_add]
      rw [ext_name (by omega)]
    rw [e1 i hi, e1 j hj] at e3
    have := ke_inj (by omega) (by omega) (Option.some.inj e3)
    omega
theorem ext_star {name : ByteArray} {l : List ByteArray} (hn : (42 : UInt8) ∉ bl name) : ∀ x ∈ exts name 0 l, star x = true ∧ baseL x = lower name := by
  intro x hx
  obtain ⟨i, s, h1, rfl⟩ := exts_mem name l 0 x hx
  exact star_of (r := num (0 + i) ++ ⟨#[42]⟩) rfl hn
theorem flat_cat (l : List ByteArray) : (l.map bl).flatten = cat l := by
  unfold cat
  rw [List.flatMap_def]
theorem raw_size (n : Nat) (s : ByteArray) : (rawL n s).length ≤ 3 * s.size + 9 := by
  have h1 := esc_len (bl s)
  have h2 := pct_le (bl s)
  rw [← sz] at h1 h2
  unfold rawL
  split
  · rw [List.length_append]; simp; omega
  · omega
/-- What the pieces give. -/
theorem ext_st {name : ByteArray} {l : List ByteArray} (h0 : l ≠ []) (hl : l.length ≤ 40) (hs : ∀ s ∈ l, s.size ≤ 16777216) (hc : (cat l).length ≤ 1099511627776) : St ((exts name 0 l).map pairL) (lower name) (cat l) := by
  have hp : ∀ p ∈ (exts name 0 l).map pairL, ∃ i s, l[i]? = some s ∧ i < 100 ∧ p.1 = ke (lower name) i := by
    intro p hp
    obtain ⟨x, hx, rfl⟩ := List.mem_map.1 hp
    obtain ⟨i, s, h1, rfl⟩ := exts_mem name l 0 x hx
    have hi : i < 100 := by have := (List.getElem?_eq_some_iff.1 h1).1; omega
    exact ⟨i, s, h1, hi, by rw [Nat.zero_add]; exact ext_name hi⟩
  refine .pieces (l.map bl) ⟨fun p h => ?_, fun n v hv => ?_, fun p h => ?_, fun p h => ?_, ?_, ?_, ?_⟩ (flat_cat l).symm
  · obtain ⟨i, s, _, _, e⟩ := hp p h
    rw [e]; exact ke_ne_k1
  · rw [List.getElem?_map] at hv
    obtain ⟨s, h1, rfl⟩ := Option.map_eq_some_iff.1 hv
    have hn : n < 100 := by have := (List.getElem?_eq_some_iff.1 h1).1; omega
    have hss := hs s (List.mem_of_getElem? h1)
    have hrs := raw_size n s
    refine .enc (tx (rawL n s)) (fun p h => ?_) ?_ (fun hz => ?_) (fun hz => ?_)
    · obtain ⟨i, _, _, _, e⟩ := hp p h
      rw [e]; exact ke_ne_kn hn
    · have h2 := exts_get name l 0 n s h1
      rw [Nat.zero_add] at h2
      refine List.mem_map.2 ⟨_, List.mem_of_getElem? h2, ?_⟩
      show (lower (extW name n s).name, tx (rawL n s)) = _
      rw [ext_name hn]
    · refine dec_any _ [85, 84, 70, 45, 56] [101, 110] (bl s) (by rw [size_tx]; omega) ?_ (by decide) (by decide) (by decide)
      rw [bl_tx]
      unfold rawL
      rw [if_pos hz]
      rfl
    · intro W
      refine percent_any _ (bl s) ?_ (by rw [size_tx]; omega) W
      rw [bl_tx]
      unfold rawL
      rw [if_neg hz]
  · obtain ⟨i, s, _, _, e⟩ := hp p h
    rw [e, List.length_map]; exact ke_ne_kn (by omega)
  · obtain ⟨i, s, h1, hi, e⟩ := hp p h
    have := (List.getElem?_eq_some_iff.1 h1).1
    rw [e, List.length_map]
    intro e2
    have := ke_inj hi (by omega) e2
    omega
  · rw [List.length_map]; exact List.length_pos_iff.2 h0
  · rw [List.length_map]; omega
  · rw [flat_cat]; exact hc
theorem cat_le {l : List ByteArray} (hs : ∀ s ∈ l, s.size ≤ 16777216) : (cat l).length ≤ l.length * 16777216 := by
  induction l with
  | nil => simp [cat]
  | cons s l ih =>
    have h1 := hs s (by simp)
    have h2 := ih (fun u hu => hs u (by simp [hu]))
    have e : cat (s :: l) = bl s ++ cat l := rfl
    rw [e, List.length_append, ← sz, List.length_cons]
    omega
theorem ext_texts_le {name : ByteArray} {l : List ByteArray} (hn : name.size ≤ 16777216) (hs : ∀ s ∈ l, s.size ≤ 16777216) : (texts (exts name 0 l)).length ≤ l.length * 67108900 := by
  suffices h : ∀ (l : List ByteArray) (n : Nat), (∀ s ∈ l, s.size ≤ 16777216) → (texts (exts name n l)).length ≤ l.length * 67108900 from h l 0 hs
  intro l
  induction l with
  | nil => intro n _; simp [exts, texts]
  | cons s l ih =>
    intro n h
    have h1 := h s (by simp)
    have h2 := ih (n + 1) (fun u hu => h u (by simp [hu]))
    have h3 := num_size n
    have h4 := raw_size n s
    have h5 := sz (num n)
    have h6 := sz name
    simp only [exts, texts_cons, List.length_append, List.length_cons, ext_text]
    simp only [List.length_nil]
    omega

/-- Parse at the text of FnContinuedExtended. -/
theorem parse_ext (e0 e1 : Value) (t name : ByteArray) (l : List ByteArray) (W : World) (hE : Env e0 e1 W) (ht : t.size ≤ 16777216) (hT : isType t = true) (hns : name.size ≤ 16777216) (hn : isTok name = true) (h42 : (42 : UInt8) ∉ bl name) (h0 : l ≠ []) (hl : l.length ≤ 40) (hs : ∀ s ∈ l, s.size ≤ 16777216) (hz : ∀ s ∈ l, s.size ≠ 0) :
    Calls Tryz.prog 14 #[.string (t ++ tx (texts (exts name 0 l)))] W fun e w' => ∃ v, e = .returned (.tuple #[.string (lower t), v, .int .i64 0]) ∧ Pv v [(lower name, tx (cat l))] w' ∧ Below W.heap.size W w' := by
  have hc := cat_le hs
  have htl := ext_texts_le (l := l) hns hs
  have hg : groups (exts name 0 l) = [(lower name, (exts name 0 l).map pairL)] := groups_one (by
    intro e
    have := congrArg List.length e
    rw [exts_len] at this
    exact h0 (List.eq_nil_of_length_eq_zero this)) (ext_star h42)
  have hp : plains (exts name 0 l) = [] := plains_none fun x hx => (ext_star h42 x hx).1
  have hsz : (t ++ tx (texts (exts name 0 l))).size ≤ 1099511627776 := by rw [app_size, size_tx]; omega
  have h := parse_stars e0 e1 (t ++ tx (texts (exts name 0 l))) t (exts name 0 l) (fun _ => cat l) W hE hsz (by rw [bl_app, bl_tx]) hT (ext_nm hn hl hz) (by rw [exts_len]; omega)
    (by rw [hg]; intro g hg; simp at hg; subst hg; exact ext_st h0 hl hs (by omega)) (by rw [hp]; simp) (by rw [hg]; intro g hg; simp at hg; subst hg; simp only; rw [lower_size]; omega) (by rw [hg, hp]; simp)
  rw [hg, hp] at h
  exact h
end Go.Proofs.YtbklpdcipfhdjaaGreatDoor.Px
