/- In plain Lean: where the pieces of a text of encoded words lie. -/
import Derived.Test.YtedhgkddfgpfhaaDoorEy
namespace Go.Proofs.YtedhgkddfgpfhaaDoor.Dh
open Go.RowKit Go.Proofs.YtedhgkddfgpfhaaDoor.A Go.Proofs.YtedhgkddfgpfhaaDoor.B64 Go.Proofs.YtedhgkddfgpfhaaDoor.Q

/-- What is still to be read: nothing, or a text of words, with a space ahead of it unless it is the first. -/
def pend (e : UInt8) (enc : List UInt8 → List UInt8) (st : Nat) : List (List UInt8) → List UInt8
  | [] => []
  | d :: r => List.replicate st 32 ++ text e enc d r

theorem text_pend (e : UInt8) (enc : List UInt8 → List UInt8) (d : List UInt8) (r : List (List UInt8)) : text e enc d r = opn e ++ (enc d ++ ([63, 61] ++ pend e enc 1 r)) := by
  cases r with
  | nil => simp [text, pend]
  | cons d' r => simp [text, pend]

/-- The signs of a word in front: '=?utf-8?e?' behind st spaces, n signs, '?=', and more. -/
structure Wd (e : UInt8) (st n : Nat) (c tl : List UInt8) (h : ByteArray) : Prop where
  st1 : st ≤ 1
  eq : h.data.toList = List.replicate st 32 ++ (opn e ++ (c ++ ([63, 61] ++ tl)))
  len : c.length = n
  no : ∀ x ∈ c, x ≠ 63

variable {e : UInt8} {st n : Nat} {c tl : List UInt8} {h : ByteArray}

theorem Wd.size (W : Wd e st n c tl h) : h.size = st + 10 + n + 2 + tl.length := by
  have h1 : h.data.toList.length = h.size := by simp
  rw [← h1, W.eq]
  simp only [List.length_append, List.length_replicate, opn, List.length_cons, List.length_nil, W.len]
  omega
theorem Wd.drop0 (W : Wd e st n c tl h) : h.data.toList.drop st = opn e ++ (c ++ ([63, 61] ++ tl)) := by
  rw [W.eq]; exact List.drop_left' (by simp)
theorem Wd.dropk (W : Wd e st n c tl h) (k : Nat) : h.data.toList.drop (st + k) = (opn e ++ (c ++ ([63, 61] ++ tl))).drop k := by
  rw [← List.drop_drop, W.drop0]
theorem Wd.drop10 (W : Wd e st n c tl h) : h.data.toList.drop (st + 10) = c ++ ([63, 61] ++ tl) := by
  rw [W.dropk]; rfl
theorem Wd.rest (W : Wd e st n c tl h) : h.data.toList.drop (st + 10 + n + 2) = tl := by
  rw [Nat.add_assoc (st + 10), ← List.drop_drop, W.drop10, ← List.drop_drop, List.drop_left' W.len]; rfl

theorem Wd.at (W : Wd e st n c tl h) (k : Nat) (x : UInt8) (hx : (opn e)[k]? = some x) (hk : st + k < h.size) : h[st + k] = x := by
  have h1 : h.data.toList[st + k]? = some x := by
    rw [← List.getElem?_drop, W.drop0, List.getElem?_append_left (List.getElem?_eq_some_iff.1 hx).1, hx]
  have h2 : h.data.toList[st + k]? = some h[st + k] := List.getElem?_eq_getElem (by simpa using hk)
  rw [h1] at h2
  exact (Option.some.inj h2).symm

theorem ext_all (s : ByteArray) (a : Nat) : (s.extract a s.size).data.toList = s.data.toList.drop a := by
  have := ext_list s a s.size
  rw [Lib.toList_data] at this
  rw [this, List.take_of_length_le (by rw [List.length_drop]; simp)]
theorem ext_cut (s : ByteArray) (a b : Nat) : (s.extract a b).data.toList = (s.data.toList.drop a).take (b - a) := by
  have := ext_list s a b
  rwa [Lib.toList_data] at this

/-- '=?' lies at st, and not ahead of it. -/
theorem Wd.start (W : Wd e st n c tl h) : (h.data.toList.drop st).take 2 = [61, 63] ∧ ∀ i, i < st → (h.data.toList.drop i).take 2 ≠ [61, 63] := by
  refine ⟨by rw [W.drop0]; rfl, fun i hi => ?_⟩
  have h1 := W.st1
  obtain rfl : i = 0 := by omega
  obtain rfl : st = 1 := by omega
  rw [W.eq]
  simp

/-- '?' behind the charset. -/
theorem Wd.quest (W : Wd e st n c tl h) : ((h.extract (st + 2) h.size).data.toList.drop 5).take 1 = [63] ∧ ∀ i, i < 5 → ((h.extract (st + 2) h.size).data.toList.drop i).take 1 ≠ [63] := by
  rw [ext_all, W.dropk]
  refine ⟨rfl, fun i hi => ?_⟩
  match i, hi with
  | 0, _ => simp [opn]
  | 1, _ => simp [opn]
  | 2, _ => simp [opn]
  | 3, _ => simp [opn]
  | 4, _ => simp [opn]

theorem Wd.charset (W : Wd e st n c tl h) : (h.extract (st + 2) (st + 7)).data.toList = [117, 116, 102, 45, 56] := by
  rw [ext_cut, W.dropk, show st + 7 - (st + 2) = 5 by omega]; rfl

/-- '?=' behind the content. -/
theorem Wd.fin (W : Wd e st n c tl h) : ((h.extract (st + 10) h.size).data.toList.drop n).take 2 = [63, 61] ∧ ∀ i, i < n → ((h.extract (st + 10) h.size).data.toList.drop i).take 2 ≠ [63, 61] := by
  rw [ext_all, W.drop10]
  refine ⟨by rw [List.drop_left' W.len]; rfl, fun i hi => ?_⟩
  have hi' : i < c.length := by rw [W.len]; exact hi
  rw [List.drop_append_of_le_length (Nat.le_of_lt hi'), List.drop_eq_getElem_cons hi']
  intro e1
  simp only [List.cons_append, List.take_succ_cons] at e1
  injection e1 with e2 _
  exact W.no _ (List.getElem_mem hi') e2

theorem Wd.content (W : Wd e st n c tl h) : (h.extract (st + 10) (st + 10 + n)).data.toList = c := by
  rw [ext_cut, W.drop10, show st + 10 + n - (st + 10) = n by omega, List.take_left' W.len]
theorem Wd.ahead (W : Wd e st n c tl h) (h1 : st = 1) : (h.extract 0 st).data.toList = [32] := by
  subst h1; rw [ext_cut, W.eq]; rfl
theorem Wd.tail (W : Wd e st n c tl h) : (h.extract (st + 10 + n + 2) h.size).data.toList = tl := by
  rw [ext_all, W.rest]

end Go.Proofs.YtedhgkddfgpfhaaDoor.Dh
