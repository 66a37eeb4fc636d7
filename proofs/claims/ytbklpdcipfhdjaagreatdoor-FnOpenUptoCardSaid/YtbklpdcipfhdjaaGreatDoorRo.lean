/- For FnOpen: Parse at its text. -/
import Derived.Test.YtbklpdcipfhdjaaGreatDoorRg
namespace Go.Proofs.YtbklpdcipfhdjaaGreatDoor.Ro
open Go.RowKit Go.Proofs.YtbklpdcipfhdjaaGreatDoor.A Go.Proofs.YtbklpdcipfhdjaaGreatDoor.D Go.Proofs.YtbklpdcipfhdjaaGreatDoor.E Go.Proofs.YtbklpdcipfhdjaaGreatDoor.G Go.Proofs.YtbklpdcipfhdjaaGreatDoor.H Go.Proofs.YtbklpdcipfhdjaaGreatDoor.P Go.Proofs.YtbklpdcipfhdjaaGreatDoor.Q Go.Proofs.YtbklpdcipfhdjaaGreatDoor.U Go.Proofs.YtbklpdcipfhdjaaGreatDoor.R Go.Proofs.YtbklpdcipfhdjaaGreatDoor.T Go.Proofs.YtbklpdcipfhdjaaGreatDoor.V Go.Proofs.YtbklpdcipfhdjaaGreatDoor.W Go.Proofs.YtbklpdcipfhdjaaGreatDoor.X Go.Proofs.YtbklpdcipfhdjaaGreatDoor.Y Go.Proofs.YtbklpdcipfhdjaaGreatDoor.Z Go.Proofs.YtbklpdcipfhdjaaGreatDoor.Ap Go.Proofs.YtbklpdcipfhdjaaGreatDoor.Rg Go.Proofs.YtbklpdcipfhdjaaGreatDoor.U Go.Proofs.YtbklpdcipfhdjaaGreatDoor.F Go.Proofs.YtbklpdcipfhdjaaGreatDoor.Rg

/-- The parameter as it is written in quotation marks. -/
def quo (x : Wn) : Wn := ⟨x.ahead, x.behind, x.name, x.value, true⟩
theorem quo_text (x : Wn) : Wn.text (quo x) = (bl x.ahead ++ 59 :: (bl x.behind ++ (bl x.name ++ 61 :: (34 :: qb (bl x.value))))) ++ [34] := by
  unfold Wn.text quo Wn.val quoteL
  simp
/-- The text without its last sign. -/
theorem cut_last (x : Wn) {tu : ByteArray} (h : tu = tx (Wn.text (quo x))) {k : Nat} (hk : tu.size = k + 1) : bl (tu.extract 0 k) = bl x.ahead ++ 59 :: (bl x.behind ++ (bl x.name ++ 61 :: (34 :: qb (bl x.value)))) := by
  unfold bl
  rw [ext_cut, h]
  show ((Wn.text (quo x)).drop 0).take (k - 0) = _
  rw [List.drop_zero, Nat.sub_zero, quo_text]
  have hl : tu.size = (Wn.text (quo x)).length := by rw [h, size_tx]
  rw [quo_text, List.length_append, List.length_singleton] at hl
  exact List.take_left' (by omega)

theorem parse_open (a : Addr) (e1 : Value) (t tu : ByteArray) (k : Nat) (l : List Wn) (x : Wn) (W : World) (hE : Env (.iface 188 (.pointer (some a))) e1 W) (ht : t.size ≤ 1048576) (hT : isType t = true) (htl : (texts l).length ≤ 16777216) (hx : Xs x) (hA : Apart (l ++ [quo x])) (hu : tu = tx (Wn.text (quo x))) (hk : tu.size = k + 1) :
    Calls Tryz.prog 14 #[.string (t ++ tx (texts l) ++ tu.extract 0 k)] W fun e w' => e = .returned (.tuple #[.string (lower t), .slice none 0 0, .int .i64 1]) ∧ Below W.heap.size W w' := by
  have hw := hA.writ (quo x) (by simp)
  have h1 : (bl x.ahead).all blk = true := hw.ahead
  have h2 : (bl x.behind).all blk = true := hw.behind
  have h3 : isTok x.name = true := hw.name
  have h4 : (bl x.value).all okb = true := hw.print
  obtain ⟨n0, nt⟩ := tok_all h3
  have hl : bl (t ++ tx (texts l) ++ tu.extract 0 k) = bl t ++ (texts l ++ (bl x.ahead ++ 59 :: (bl x.behind ++ (bl x.name ++ 61 :: (34 :: qb (bl x.value)))))) := by
    rw [bl_append, bl_append, bl_tx, cut_last x hu hk]
    simp
  have hn := sz x.name
  have hb := sz x.behind
  have ha := sz x.ahead
  have hv := sz x.value
  have hq := qb_le (bl x.value)
  have htt := sz t
  obtain ⟨xa, xb, xn, xv⟩ := hx
  have hs : (t ++ tx (texts l) ++ tu.extract 0 k).size ≤ 1099511627776 := by
    rw [sz, hl]; simp only [List.length_append, List.length_cons]; omega
  have hrs : (tx (59 :: (bl x.behind ++ (bl x.name ++ 61 :: (34 :: qb (bl x.value)))))).size ≤ 1099511627776 := by
    rw [size_tx]; simp only [List.length_append, List.length_cons]; omega
  obtain ⟨d, nb, hnd⟩ : ∃ d nb, bl x.name = d :: nb := by
    cases hc : bl x.name with
    | nil => rw [hc] at n0; simp at n0
    | cons d nb => exact ⟨d, nb, rfl⟩
  have h53 := param_unclosed (tx (59 :: (bl x.behind ++ (bl x.name ++ 61 :: (34 :: qb (bl x.value)))))) [] (bl x.behind) (bl x.value) x.name hrs (bl_tx _) rfl h2 h3 h4
  have hok : (bl (tx (59 :: (bl x.behind ++ (bl x.name ++ 61 :: (34 :: qb (bl x.value))))))).all okb = true := by
    rw [bl_tx, List.all_cons, List.all_append, List.all_append, List.all_cons, List.all_cons, blk_okb h2, tok_okb h3, qb_okb h4]; decide
  obtain ⟨u, h48, hu2⟩ := g_trimLong (e0 := .iface 188 (.pointer (some a))) (e1 := e1) (tx (59 :: (bl x.behind ++ (bl x.name ++ 61 :: (34 :: qb (bl x.value)))))) 59 d (bl x.behind) (nb ++ 61 :: (34 :: qb (bl x.value))) hrs (by rw [bl_tx, hnd]; simp) hok (by decide) (plain_tok (nt d (by rw [hnd]; simp)))
  exact impl_err a e1 _ _ W hE (parse_err _ e1 _ t l (bl x.ahead) (bl x.behind ++ (bl x.name ++ 61 :: (34 :: qb (bl x.value)))) u W hE hs hl hT (apart_left hA) h1 h53 h48 hu2)

end Go.Proofs.YtbklpdcipfhdjaaGreatDoor.Ro
