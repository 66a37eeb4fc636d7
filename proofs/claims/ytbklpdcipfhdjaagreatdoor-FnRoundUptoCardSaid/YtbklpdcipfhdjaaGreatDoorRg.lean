/- For the laws with a parameter more: what the region of the two appends leaves, and Parse at the text of FnNoValue. -/
import Derived.Test.YtbklpdcipfhdjaaGreatDoorAp
namespace Go.Proofs.YtbklpdcipfhdjaaGreatDoor.Rg
open Go.RowKit Go.Proofs.YtbklpdcipfhdjaaGreatDoor.A Go.Proofs.YtbklpdcipfhdjaaGreatDoor.D Go.Proofs.YtbklpdcipfhdjaaGreatDoor.E Go.Proofs.YtbklpdcipfhdjaaGreatDoor.G Go.Proofs.YtbklpdcipfhdjaaGreatDoor.H Go.Proofs.YtbklpdcipfhdjaaGreatDoor.P Go.Proofs.YtbklpdcipfhdjaaGreatDoor.Q Go.Proofs.YtbklpdcipfhdjaaGreatDoor.U Go.Proofs.YtbklpdcipfhdjaaGreatDoor.R Go.Proofs.YtbklpdcipfhdjaaGreatDoor.T Go.Proofs.YtbklpdcipfhdjaaGreatDoor.V Go.Proofs.YtbklpdcipfhdjaaGreatDoor.W Go.Proofs.YtbklpdcipfhdjaaGreatDoor.X Go.Proofs.YtbklpdcipfhdjaaGreatDoor.Y Go.Proofs.YtbklpdcipfhdjaaGreatDoor.Z Go.Proofs.YtbklpdcipfhdjaaGreatDoor.Ap

/-- What the region of the appends reads: the box, and that nothing below has turned. -/
theorem s_of {w2 w' : World} {Bx : Nat} {x : Wn} (h : Bxd Bx x w2) (hb : Below w2.heap.size w2 w') :
    w'.cell? ⟨Bx, 0, none⟩ = some (.string x.ahead) ∧ w'.cell? ⟨Bx, 1, none⟩ = some (.string x.behind) ∧ w'.cell? ⟨Bx, 2, none⟩ = some (.string x.name) ∧ w'.cell? ⟨Bx, 3, none⟩ = some (.string x.value) ∧ Below w2.heap.size w2 w' :=
  ⟨(h.below hb).c0, (h.below hb).c1, (h.below hb).c2, (h.below hb).c3, hb⟩

theorem bl1 (w : World) (o : Obj) : Below w.heap.size w (w.alloc o).drew := ((Below.refl _ w).alloc (Nat.le_refl _) o).drew
theorem bl2 (w : World) (o1 o2 : Obj) : Below w.heap.size w ((w.alloc o1).alloc o2).drew := (((Below.refl _ w).alloc (Nat.le_refl _) o1).alloc (by simp) o2).drew
theorem l1 (w : World) (o : Obj) : (w.alloc o).drew.heap[w.heap.size]? = some o := heap_alloc_new w o
theorem two_new (w : World) (o1 o2 : Obj) : ((w.alloc o1).alloc o2).heap[w.heap.size + 1]? = some o2 := by
  have := heap_alloc_new (w.alloc o1) o2
  simpa using this
theorem two_old (w : World) (o1 o2 : Obj) : ((w.alloc o1).alloc o2).heap[w.heap.size]? = some o1 :=
  (Lib.alloc_old _ _ _ (by simp)).trans (heap_alloc_new w o1)
theorem below_alloc' {w2 w : World} (h : Below w2.heap.size w2 w) (o : Obj) : Below w2.heap.size w2 (w.alloc o) := h.alloc h.size o
theorem below_grow {w2 W w' : World} {r : Option Nat} (h : Below w2.heap.size w2 W) (hg : W.grownBy w' r) (hr : ∀ j, r = some j → w2.heap.size ≤ j) : Below w2.heap.size w2 w' := h.grown hg h.size hr

theorem l2 (w : World) (o1 o2 : Obj) : ((w.alloc o1).alloc o2).drew.heap[w.heap.size]? = some o1 := two_old w o1 o2
theorem l3 (w : World) (o1 o2 : Obj) : ((w.alloc o1).alloc o2).drew.heap[w.heap.size + 1]? = some o2 := two_new w o1 o2
/-- What the first append leaves. -/
def R1 (w2 W : World) (g : Nat) (l : List Wn) (v' : Value) (w' : World) : Prop :=
  w'.ownsRow w2.heap.size 24 5 v' l.length (wc l) ∧ Below w2.heap.size w2 w' ∧ W.grownBy w' (some g) ∧ ∃ ao n c, v' = .slice ao n c
theorem run1 {w2 W : World} {ao : Option Addr} {cap g : Nat} {l : List Wn} (hL : Ls ao cap l w2) (hb : Below w2.heap.size w2 W) (hge : w2.heap.size ≤ g) (hg : W.heap[g]? = some (.cells #[] 24 (0, 0))) (ty : TypeId) :
    ∃ v' w', (Builtin.append_ #[22, 22] ty #[.slice (some ⟨g, 0, none⟩) 0 0, .slice ao l.length cap]).run Tryz.prog W = .ok v' w' ∧ R1 w2 W g l v' w' := by
  obtain ⟨v', w', h1, h2, h3⟩ := append1 (B := w2.heap.size) hg hge hb.size (hL.below hb) ty
  refine ⟨v', w', h1, h2, below_grow hb h3 (fun j hj => by cases hj; exact hge), h3, ?_⟩
  rcases h2.2 with ⟨h, _⟩ | ⟨g, c, _, h, _⟩
  · exact ⟨_, _, _, h⟩
  · exact ⟨_, _, _, h⟩
/-- What the second append leaves. -/
def R2 (w2 : World) (l : List Wn) (x : Wn) (v' : Value) (w' : World) : Prop :=
  w'.ownsRow w2.heap.size 24 5 v' (l.length + 1) (wc (l ++ [x])) ∧ Below w2.heap.size w2 w' ∧ ∃ g2 c2, v' = .slice (some ⟨g2, 0, none⟩) (l.length + 1) c2
theorem run2 {w2 W : World} {g c : Nat} {v : Value} {l : List Wn} {x : Wn} (hl : l.length ≤ 1048576) (hown : W.ownsRow w2.heap.size 24 5 v l.length (wc l)) (hb : Below w2.heap.size w2 W) (hg : W.heap[g]? = some (.cells x.cells 24 (0, 0))) (ty : TypeId) :
    ∃ v' w', (Builtin.append_ #[22, 22] ty #[v, .slice (some ⟨g, 0, none⟩) 1 c]).run Tryz.prog W = .ok v' w' ∧ R2 w2 l x v' w' := by
  obtain ⟨v', w', h1, h2, h3, h4⟩ := append2 hown hl hb.size hg ty
  rw [show (l ++ [x]).length = l.length + 1 by simp] at h2 h4
  exact ⟨v', w', h1, h2, below_grow hb h3 (fun j hj => (hown.lt j hj).1), h4⟩
/-- Well of what the appends have made. -/
theorem well2 {w2 W : World} {l : List Wn} {x : Wn} {g c : Nat} (h : W.ownsRow w2.heap.size 24 5 (.slice (some ⟨g, 0, none⟩) (l.length + 1) c) (l.length + 1) (wc (l ++ [x]))) (hb : Below w2.heap.size w2 W) (hl : l.length ≤ 1048576) (hs : ∀ y ∈ l ++ [x], Sm y) :
    Calls Tryz.prog 13 #[.slice (some ⟨g, 0, none⟩) (l.length + 1) c] W fun e w' => (∃ v, e = .returned (.bool v) ∧ (v = true → Apart (l ++ [x]))) ∧ Below w2.heap.size w2 w' := by
  have e : (l ++ [x]).length = l.length + 1 := by simp
  rw [← e] at h ⊢
  obtain ⟨_, hr⟩ := rowW_of h
  refine (well_row g 0 c (l ++ [x]) W (by simp; omega) hs hr).mono ?_
  rintro e w' ⟨h1, h2⟩
  exact ⟨h1, chain hb h2⟩

/-- The strings of the parameter are short. -/
structure Xs (x : Wn) : Prop where
  a : x.ahead.size ≤ 1048576
  b : x.behind.size ≤ 1048576
  n : x.name.size ≤ 1048576
  v : x.value.size ≤ 1048576
theorem Xs.sm {x : Wn} (h : Xs x) : Sm x := by
  obtain ⟨a, b, n, v⟩ := h
  exact ⟨by omega, by omega, by omega, by omega⟩
theorem apart_left {l : List Wn} {y : Wn} (h : Apart (l ++ [y])) : Apart l := by
  refine ⟨fun x hx => h.writ x (by simp [hx]), fun x hx => h.star x (by simp [hx]), ?_⟩
  have := h.apart
  rw [List.map_append, List.nodup_append] at this
  exact this.1

/-- Parse at the law's text. -/
theorem parse_noValue (a : Addr) (e1 : Value) (t : ByteArray) (l : List Wn) (x : Wn) (W : World) (hE : Env (.iface 188 (.pointer (some a))) e1 W) (ht : t.size ≤ 1048576) (hT : isType t = true) (htl : (texts l).length ≤ 16777216) (hx : Xs x) (hA : Apart (l ++ [(⟨x.ahead, x.behind, x.name, ⟨#[120]⟩, false⟩ : Wn)])) :
    Calls Tryz.prog 14 #[.string (t ++ tx (texts l) ++ x.ahead ++ ⟨#[59]⟩ ++ x.behind ++ x.name)] W fun e w' => e = .returned (.tuple #[.string (lower t), .slice none 0 0, .int .i64 1]) ∧ Below W.heap.size W w' := by
  have hw := hA.writ ⟨x.ahead, x.behind, x.name, ⟨#[120]⟩, false⟩ (by simp)
  have h1 := hw.ahead
  have h2 := hw.behind
  have h3 := hw.name
  simp only at h1 h2 h3
  obtain ⟨n0, nt⟩ := tok_all h3
  have hl : bl (t ++ tx (texts l) ++ x.ahead ++ ⟨#[59]⟩ ++ x.behind ++ x.name) = bl t ++ (texts l ++ (bl x.ahead ++ 59 :: (bl x.behind ++ bl x.name))) := by
    simp only [bl_append, bl_tx]
    simp [bl]
  have hn := sz x.name
  have hb := sz x.behind
  have ha := sz x.ahead
  have htt := sz t
  obtain ⟨xa, xb, xn, xv⟩ := hx
  have hs : (t ++ tx (texts l) ++ x.ahead ++ ⟨#[59]⟩ ++ x.behind ++ x.name).size ≤ 1099511627776 := by
    rw [sz, hl]; simp only [List.length_append, List.length_cons]; omega
  have hrs : (tx (59 :: (bl x.behind ++ bl x.name))).size ≤ 1099511627776 := by
    rw [size_tx]; simp only [List.length_append, List.length_cons]; omega
  obtain ⟨d, nb, hnd⟩ : ∃ d nb, bl x.name = d :: nb := by
    cases hc : bl x.name with
    | nil => rw [hc] at n0; simp at n0
    | cons d nb => exact ⟨d, nb, rfl⟩
  have h53 := param_noValue (tx (59 :: (bl x.behind ++ bl x.name))) [] (bl x.behind) x.name hrs (bl_tx _) rfl h2 h3
  have hok : (bl (tx (59 :: (bl x.behind ++ bl x.name)))).all okb = true := by
    rw [bl_tx, List.all_cons, List.all_append, blk_okb h2, tok_okb h3]; decide
  obtain ⟨u, h48, hu⟩ := g_trimLong (e0 := .iface 188 (.pointer (some a))) (e1 := e1) (tx (59 :: (bl x.behind ++ bl x.name))) 59 d (bl x.behind) nb hrs (by rw [bl_tx, hnd]) hok (by decide) (plain_tok (nt d (by rw [hnd]; simp)))
  exact impl_err a e1 _ _ W hE (parse_err _ e1 _ t l (bl x.ahead) (bl x.behind ++ bl x.name) u W hE hs hl hT (apart_left hA) h1 h53 h48 hu)


end Go.Proofs.YtbklpdcipfhdjaaGreatDoor.Rg
