/- In plain Lean: the text of written parameters, and where its parts lie. -/
import Derived.Test.YtbklpdcipfhdjaaGreatDoorH
import Derived.Test.YtbklpdcipfhdjaaGreatDoorJ
namespace Go.Proofs.YtbklpdcipfhdjaaGreatDoor.P
open Go.RowKit Go.Proofs.YtbklpdcipfhdjaaGreatDoor.A Go.Proofs.YtbklpdcipfhdjaaGreatDoor.C Go.Proofs.YtbklpdcipfhdjaaGreatDoor.D Go.Proofs.YtbklpdcipfhdjaaGreatDoor.E Go.Proofs.YtbklpdcipfhdjaaGreatDoor.F Go.Proofs.YtbklpdcipfhdjaaGreatDoor.G Go.Proofs.YtbklpdcipfhdjaaGreatDoor.H

/-- The bytes of a text. -/
abbrev bl (s : ByteArray) : List UInt8 := s.data.toList
/-- The text of some bytes. -/
def tx (l : List UInt8) : ByteArray := ⟨l.toArray⟩
theorem bl_tx (l : List UInt8) : bl (tx l) = l := rfl
theorem tx_bl (s : ByteArray) : tx (bl s) = s := rfl
theorem sz (s : ByteArray) : s.size = (bl s).length := by simp [bl]
theorem eq_of_bl {s u : ByteArray} (h : bl s = bl u) : s = u := by
  rw [← tx_bl s, ← tx_bl u, h]

/-- What stands in quotation marks. -/
def qb : List UInt8 → List UInt8
  | [] => []
  | c :: r => if c = 92 ∨ c = 34 then 92 :: c :: qb r else c :: qb r
def quoteL (l : List UInt8) : List UInt8 := 34 :: (qb l ++ [34])
def Wn.val (x : Wn) : List UInt8 := if x.quoted then quoteL (bl x.value) else bl x.value
/-- A written parameter's text. -/
def Wn.text (x : Wn) : List UInt8 := bl x.ahead ++ 59 :: (bl x.behind ++ (bl x.name ++ 61 :: Wn.val x))
def texts (l : List Wn) : List UInt8 := l.flatMap Wn.text
/-- A parameter that may be written (its name may hold an asterisk). -/
structure Writ (x : Wn) : Prop where
  ahead : (bl x.ahead).all blk = true
  behind : (bl x.behind).all blk = true
  print : (bl x.value).all okb = true
  val : x.quoted = true ∨ isTok x.value = true
  name : isTok x.name = true

theorem qb_append (a b : List UInt8) : qb (a ++ b) = qb a ++ qb b := by
  induction a with
  | nil => rfl
  | cons c r ih => simp only [List.cons_append, qb]; split <;> simp [ih]
theorem qb_length_ge (a : List UInt8) : a.length ≤ (qb a).length := by
  induction a with
  | nil => simp [qb]
  | cons c r ih => simp only [qb]; split <;> simp <;> omega

/-- A byte that TrimSpace leaves. -/
def plain (c : UInt8) : Bool := decide (33 ≤ c.toNat) && decide (c.toNat ≤ 126)
theorem plain_tok {c : UInt8} (h : tokB c.toNat = true) : plain c = true := by
  simp [tokB] at h; simp [plain]; omega
theorem okb_tok {c : UInt8} (h : tokB c.toNat = true) : okb c = true := by
  simp [tokB] at h; simp [okb]; omega
theorem okb_plain {c : UInt8} (h : plain c = true) : okb c = true := by
  simp [plain] at h; simp [okb]; omega
theorem okb_blk {c : UInt8} (h : blk c = true) : okb c = true := by
  simp [blk] at h; rcases h with rfl | rfl <;> decide
theorem blk_of_okb {c : UInt8} (h : okb c = true) (h2 : plain c = false) : blk c = true := by
  simp [okb] at h; simp [plain] at h2
  have : c.toNat = 32 ∨ c.toNat = 9 := by omega
  simp [blk]
  rcases this with e | e
  · left; exact UInt8.toNat_inj.1 (by simpa using e)
  · right; exact UInt8.toNat_inj.1 (by simpa using e)

theorem tok_all {s : ByteArray} (h : isTok s = true) : 0 < (bl s).length ∧ ∀ c ∈ bl s, tokB c.toNat = true := by
  unfold isTok at h
  rw [Bool.and_eq_true, decide_eq_true_eq, beq_iff_eq, sz] at h
  refine ⟨h.1, fun c hc => ?_⟩
  have h2 := h.2
  unfold tokS tl at h2
  have h3 : (bl s).takeWhile (fun x => tokB x.toNat) = bl s := by
    have := List.takeWhile_prefix (fun x : UInt8 => tokB x.toNat) (l := bl s)
    exact this.eq_of_length h2
  rw [← h3] at hc
  exact List.all_eq_true.1 (List.all_takeWhile (p := fun x : UInt8 => tokB x.toNat) (l := bl s)) c hc
theorem tl_tok (n r : List UInt8) (h : ∀ c ∈ n, tokB c.toNat = true) (hr : ∀ c, r.head? = some c → tokB c.toNat = false) : tl (n ++ r) = n.length := by
  unfold tl
  rw [List.takeWhile_append_of_pos h]
  cases r with
  | nil => simp
  | cons c r => rw [List.takeWhile_cons_of_neg (by simp [hr c rfl])]; simp

theorem qb_okb {l : List UInt8} (h : l.all okb = true) : (qb l).all okb = true := by
  induction l with
  | nil => rfl
  | cons c r ih =>
    rw [List.all_cons, Bool.and_eq_true] at h
    simp only [qb]; split <;> simp [h.1, ih h.2] <;> decide
theorem val_okb {x : Wn} (h : Writ x) : (Wn.val x).all okb = true := by
  unfold Wn.val
  split
  · unfold quoteL; rw [List.all_cons, List.all_append, qb_okb h.print]; decide
  · exact h.print
theorem blk_okb {l : List UInt8} (h : l.all blk = true) : l.all okb = true := by
  rw [List.all_eq_true] at h ⊢; exact fun c hc => okb_blk (h c hc)
theorem tok_okb {s : ByteArray} (h : isTok s = true) : (bl s).all okb = true := by
  rw [List.all_eq_true]; exact fun c hc => okb_tok ((tok_all h).2 c hc)
theorem text_okb {x : Wn} (h : Writ x) : (Wn.text x).all okb = true := by
  unfold Wn.text
  rw [List.all_append, List.all_cons, List.all_append, List.all_append, List.all_cons, blk_okb h.ahead, blk_okb h.behind, tok_okb h.name, val_okb h]
  decide
theorem texts_okb {l : List Wn} (h : ∀ x ∈ l, Writ x) : (texts l).all okb = true := by
  rw [List.all_eq_true]
  intro c hc
  obtain ⟨x, hx, hcx⟩ := List.mem_flatMap.1 hc
  exact List.all_eq_true.1 (text_okb (h x hx)) c hcx

/-- The first byte of a value is no blank. -/
theorem val_head {x : Wn} (h : Writ x) : ∃ c r, Wn.val x = c :: r ∧ plain c = true := by
  unfold Wn.val
  split
  · exact ⟨_, _, rfl, by decide⟩
  · rename_i hq
    rcases h.val with e | e
    · exact absurd e hq
    · obtain ⟨h1, h2⟩ := tok_all e
      cases hl : bl x.value with
      | nil => rw [hl] at h1; simp at h1
      | cons c r => exact ⟨c, r, rfl, plain_tok (h2 c (by rw [hl]; simp))⟩

/-- Blanks behind a text parted from it. -/
theorem part_end (l : List UInt8) (h : l.all okb = true) : ∃ m p, l = m ++ p ∧ p.all blk = true ∧ ∀ c, m.getLast? = some c → plain c = true := by
  induction l with
  | nil => exact ⟨[], [], rfl, rfl, by simp⟩
  | cons c r ih =>
    rw [List.all_cons, Bool.and_eq_true] at h
    obtain ⟨m, p, rfl, hp, hm⟩ := ih h.2
    cases m with
    | nil =>
      cases hc : plain c with
      | true => exact ⟨[c], p, rfl, hp, by simp [hc]⟩
      | false => exact ⟨[], c :: p, rfl, by simp [hp, blk_of_okb h.1 hc], by simp⟩
    | cons d m => exact ⟨c :: d :: m, p, rfl, hp, by simpa using hm⟩

end Go.Proofs.YtbklpdcipfhdjaaGreatDoor.P
