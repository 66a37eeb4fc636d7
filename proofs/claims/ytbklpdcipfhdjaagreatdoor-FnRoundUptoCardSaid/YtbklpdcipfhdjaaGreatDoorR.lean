/- What the program's variables hold, carried through calls; TrimSpace, CutPrefix and the check of the type as they are used. -/
import Derived.Test.YtbklpdcipfhdjaaGreatDoorQ
import Derived.Lib.AtoiErrMem
namespace Go.Proofs.YtbklpdcipfhdjaaGreatDoor.R
open Go.RowKit Go.Proofs.YtbklpdcipfhdjaaGreatDoor.A Go.Proofs.YtbklpdcipfhdjaaGreatDoor.C Go.Proofs.YtbklpdcipfhdjaaGreatDoor.D Go.Proofs.YtbklpdcipfhdjaaGreatDoor.E Go.Proofs.YtbklpdcipfhdjaaGreatDoor.F Go.Proofs.YtbklpdcipfhdjaaGreatDoor.G Go.Proofs.YtbklpdcipfhdjaaGreatDoor.H Go.Proofs.YtbklpdcipfhdjaaGreatDoor.I Go.Proofs.YtbklpdcipfhdjaaGreatDoor.P Go.Proofs.YtbklpdcipfhdjaaGreatDoor.J Go.Proofs.YtbklpdcipfhdjaaGreatDoor.N Go.Proofs.YtbklpdcipfhdjaaGreatDoor.O Go.Proofs.YtbklpdcipfhdjaaGreatDoor.Q

theorem var?_below {P : Program} {B g : Nat} {W W' : World} {n : String} {cs : Array Value} (h : Below B W W') (hg : P.globalNamed n = some g) (hgB : g < B) (hv : W.var? P n = some cs) : W'.var? P n = some cs := by
  unfold World.var? at hv ⊢
  rw [hg] at hv ⊢
  simp only [Option.bind_some] at hv ⊢
  rw [h.block g hgB]
  exact hv
theorem var?_lt {P : Program} {g : Nat} {W : World} {n : String} {cs : Array Value} (hg : P.globalNamed n = some g) (hv : W.var? P n = some cs) : g < W.heap.size := by
  unfold World.var? at hv
  rw [hg] at hv
  simp only [Option.bind_some] at hv
  rcases Nat.lt_or_ge g W.heap.size with h | h
  · exact h
  · rw [Array.getElem?_eq_none h] at hv; cases hv

theorem spNamed : Tryz.prog.globalNamed "strings.asciiSpace" = some 2 := by kernel_rfl

/-- What the world holds of the program's variables: the table of spaces, and the two errors. -/
structure Env (e0 e1 : Value) (w : World) : Prop where
  sp : Lib.TabIs Tryz.prog w "strings.asciiSpace" .u8 Lib.asciiSpaceTab
  err : w.cell? ⟨0, 0, none⟩ = some e0
  dup : w.cell? ⟨1, 0, none⟩ = some e1

theorem cell_lt {w : World} {a : Addr} {v : Value} (h : w.cell? a = some v) : a.block < w.heap.size := by
  rcases Nat.lt_or_ge a.block w.heap.size with h1 | h1
  · exact h1
  · simp [World.cell?, Array.getElem?_eq_none h1] at h
theorem Env.below {e0 e1 : Value} {w w' : World} (h : Env e0 e1 w) (hb : Below w.heap.size w w') : Env e0 e1 w' :=
  ⟨var?_below hb spNamed (var?_lt spNamed h.sp) h.sp, (hb.cell (p := ⟨0, 0, none⟩) (cell_lt h.err)).trans h.err, (hb.cell (p := ⟨1, 0, none⟩) (cell_lt h.dup)).trans h.dup⟩

/-- As Gives, in the worlds that hold the program's variables. -/
def GivesE (e0 e1 : Value) (f : Nat) (args : Array Value) (v : Value) : Prop := ∀ W : World, Env e0 e1 W → Calls Tryz.prog f args W fun e W' => e = .returned v ∧ Below W.heap.size W W'

theorem isSp_blk {c : UInt8} (h : blk c = true) : Lib.isSp c = true := by
  simp [blk] at h; rcases h with rfl | rfl <;> decide
theorem isSp_plain {c : UInt8} (h : plain c = true) : Lib.isSp c = false := by
  simp [plain] at h
  simp only [Lib.isSp, Bool.or_eq_false_iff, beq_eq_false_iff_ne]
  refine ⟨⟨⟨⟨⟨?_, ?_⟩, ?_⟩, ?_⟩, ?_⟩, ?_⟩ <;> (intro e; subst e; revert h; decide)

theorem trimSpace_eq (m p : List UInt8) (hp : p.all blk = true) (h1 : ∀ c, m.head? = some c → plain c = true) (h2 : ∀ c, m.getLast? = some c → plain c = true) (h0 : m ≠ []) : Lib.trimSpace (m ++ p) = m := by
  unfold Lib.trimSpace
  cases m with
  | nil => exact absurd rfl h0
  | cons c r =>
    rw [List.cons_append, List.dropWhile_cons_of_neg (by rw [isSp_plain (h1 c rfl)]; simp), ← List.cons_append, List.reverse_append]
    rw [List.dropWhile_append_of_pos (by
      intro d hd
      rw [List.mem_reverse] at hd
      exact isSp_blk (List.all_eq_true.1 hp d hd))]
    have hl : (c :: r).reverse.dropWhile Lib.isSp = (c :: r).reverse := by
      cases hr : (c :: r).reverse with
      | nil => simp at hr
      | cons d q =>
        have : (c :: r).getLast? = some d := by rw [← List.head?_reverse, hr]; rfl
        rw [List.dropWhile_cons_of_neg (by rw [isSp_plain (h2 d this)]; simp)]
    rw [hl, List.reverse_reverse]

theorem okb_lt {c : UInt8} (h : okb c = true) : c.toNat < 128 := by simp [okb] at h; omega

theorem g_trimSpace {e0 e1 : Value} (s : ByteArray) (m p : List UInt8) (hs : s.size ≤ 1099511627776) (hl : bl s = m ++ p) (hm : m.all okb = true) (hp : p.all blk = true) (h1 : ∀ c, m.head? = some c → plain c = true) (h2 : ∀ c, m.getLast? = some c → plain c = true) (h0 : m ≠ []) :
    GivesE e0 e1 48 #[.string s] (.string (tx m)) := by
  intro W hE
  refine (Tryz.strings_TrimSpace s W (by omega) (fun j b hj => ?_) hE.sp).mono ?_
  · have : b ∈ m ++ p := by rw [← hl]; exact List.mem_of_getElem? hj
    rcases List.mem_append.1 this with h | h
    · exact okb_lt (List.all_eq_true.1 hm b h)
    · exact okb_lt (okb_blk (List.all_eq_true.1 hp b h))
  · rintro e w' ⟨rfl, rfl⟩
    refine ⟨?_, Lib.bytesWorld_below _ _ _⟩
    unfold bl at hl
    rw [hl, trimSpace_eq m p hp h1 h2 h0]
    rfl

/-- TrimSpace of a text that begins with a printable byte and holds two such bytes is not one byte. -/
theorem g_trimLong {e0 e1 : Value} (s : ByteArray) (c d : UInt8) (a b : List UInt8) (hs : s.size ≤ 1099511627776) (hl : bl s = c :: (a ++ d :: b)) (hok : (bl s).all okb = true) (hc : plain c = true) (hd : plain d = true) :
    ∃ u : ByteArray, GivesE e0 e1 48 #[.string s] (.string u) ∧ (u.toList == (⟨#[59]⟩ : ByteArray).toList) = false := by
  obtain ⟨m, p, hmp, hp, hml⟩ := part_end (bl s) hok
  have hdm : d ∉ p := fun h => by
    have h1 := isSp_blk (List.all_eq_true.1 hp d h)
    rw [isSp_plain hd] at h1; cases h1
  have hlen : 2 ≤ m.length := by
    rcases Nat.lt_or_ge m.length 2 with h | h
    · exfalso
      apply hdm
      rw [hl] at hmp
      match m, h with
      | [], _ =>
        rw [List.nil_append] at hmp
        rw [← hmp]; simp
      | [x], _ =>
        simp only [List.cons_append, List.nil_append, List.cons.injEq] at hmp
        rw [← hmp.2]; simp
    · exact h
  refine ⟨tx m, g_trimSpace s m p hs hmp ?_ hp ?_ hml (by intro e; rw [e] at hlen; simp at hlen), ?_⟩
  · rw [hmp, List.all_append, Bool.and_eq_true] at hok; exact hok.1
  · intro x hx
    have : (bl s).head? = some x := by
      rw [hmp]
      cases m with
      | nil => simp at hlen
      | cons y r => simpa using hx
    rw [hl] at this
    simp at this
    rw [← this]; exact hc
  · rw [beq_eq_false_iff_ne, Lib.toList_data, Lib.toList_data]
    intro e
    have h3 : m.length = 1 := congrArg List.length e
    omega

end Go.Proofs.YtbklpdcipfhdjaaGreatDoor.R
