/- The walks of EncodedLen and of the stream encoder's Close. -/
import Derived.Test.YtedhgkddfgpfhaaDoorEw
import Derived.Deep.RegionHeld3
namespace Go.Proofs.YtedhgkddfgpfhaaDoor.Ew
open Go.RowKit Go.Proofs.YtedhgkddfgpfhaaDoor.B64 Go.Proofs.YtedhgkddfgpfhaaDoor.N Go.Proofs.YtedhgkddfgpfhaaDoor.En Go.Proofs.YtedhgkddfgpfhaaDoor.Bd

set_option maxHeartbeats 1000000 in
theorem encodedLen_any (g n : Nat) (w : World) (hI : IsEnc g 64 w) (hn : n ≤ 1099511627776) :
    Calls Tryd.prog 53 #[.pointer (some ⟨g, 0, none⟩), .int .i64 n] w fun r w' => r = .returned (.int .i64 ((n + 2) / 3 * 4 : Nat)) ∧ w = w' := by
  have ep : w.cell? ⟨g, 320, none⟩ = some (.int .i32 61) := hI.cell _ _ (ENC_pad _)
  clear hI
  go_enter Tryd.func53, Tryd.ntmps53
  go_wp2_with fail
  go_ret
  exact ⟨by simp, rfl⟩

theorem encodedLen_call {g n : Nat} {w : World} (hI : IsEnc g 64 w) (hn : n ≤ 1099511627776) (m : Nat) (hm : m = (n + 2) / 3 * 4) :
    ∀ W : World, W.heap = w.heap → Calls Tryd.prog 53 #[.pointer (some ⟨g, 0, none⟩), .int .i64 n] W fun r w' => r = .returned (.int .i64 m) ∧ W = w' := by
  intro W hW; subst hm; exact encodedLen_any g n W (by unfold IsEnc; rw [hW]; exact hI) hn

theorem write_call2 {B e g b n4 : Nat} {l k bf : List UInt8} {w w1 : World} (hA : Ew B e g b l bf w w1) (heb : e ≠ b) (hgb : g ≠ b) (hO : Out e 7 k w1) (hk : k.length = n4) (hll : l.length + n4 ≤ 140737488355328) (hBw : B ≤ w1.heap.size) :
    ∀ W : World, Al w1 W → Calls Tryd.prog 27 #[.pointer (some ⟨b, 0, none⟩), .slice (some ⟨e, 7, none⟩) n4 1024] W fun r w' => r = .returned (.tuple #[.int .i64 n4, .nilIface]) ∧ Ew B e g b (l ++ k) bf w w' := by
  intro W hW
  have hb := bd_heap hA.bd hW.1
  refine (Write_any B b l k ⟨e, 7, none⟩ n4 1024 W hb hk ?_ heb hll (by rw [hW.1]; exact hBw)).mono ?_
  · intro j u hj
    have hadd : (⟨e, 7, none⟩ : Addr).add j = ⟨e, 7 + j, none⟩ := by unfold Addr.add; split <;> simp_all
    rw [hadd, cell_heap hW.1]
    unfold Lib.byteCells at hj
    rw [List.getElem?_map] at hj
    cases hx : k[j]? with
    | none => rw [hx] at hj; cases hj
    | some x => rw [hx] at hj; obtain rfl := Option.some.inj hj; exact hO j x hx
  · rintro r w' ⟨rfl, h1, h2⟩
    exact ⟨rfl, (hA.ek.same (w' := W) (by rw [hW.1])).wr heb h2, enc_wr (w := W) (by unfold IsEnc; rw [hW.1]; exact hA.enc) hgb h2, h1, (hA.below.trans (hW.below B)).trans h2.below⟩

theorem enc_call2 {e g b k : Nat} {bf : List UInt8} {w : World} (hE : Ek e g b bf w) (hI : IsEnc g 64 w) (hge : g ≠ e) (hk : bf.length = k) (hk0 : 0 < k) (hk3 : k ≤ 3) :
    ∀ W : World, W.heap = w.heap → Calls Tryd.prog 97 #[.pointer (some ⟨g, 0, none⟩), .slice (some ⟨e, 7, none⟩) 1024 1024, .slice (some ⟨e, 3, none⟩) k 3] W fun r w' => r = .returned (.tuple #[]) ∧ Ec e 7 (b64 bf) W w' := by
  intro W hW
  refine encode_any g e 7 e 3 k 3 bf W ?_ hge ?_ hk hk0 (by omega) hk3 ?_
  · unfold IsEnc; rw [hW]; exact hI
  · intro j hj; rw [cell_heap hW, frozen_heap hW]; exact ⟨hE.some_ _ (by omega), hE.nofz _⟩
  · intro w' hs j x hx
    have := (List.getElem?_eq_some_iff.1 hx).1
    rw [hs.cell _ (by omega), cell_heap hW]
    exact hE.buf j x hx

theorem ew_sc {B e g b lo : Nat} {l bf bf' : List UInt8} {w w1 w2 : World} (hA : Ew B e g b l bf w w1) (hs : Sc e lo w1 w2) (hE : Ek e g b bf' w2) (heb : e ≠ b) (hge : g ≠ e) (hBe : B ≤ e) : Ew B e g b l bf' w w2 :=
  ⟨hE, enc_sc hA.enc hge hs, bd_sc hA.bd heb hA.ek.shape hs, hA.below.trans (below_sc hBe hs)⟩
theorem co {e : Nat} (w : World) (v : Value) (p : Nat) (hp : 0 < p) : (w.setCell ⟨e, 0, none⟩ v).cell? ⟨e, p, none⟩ = w.cell? ⟨e, p, none⟩ := by rw [setc, if_neg (by omega)]
theorem Ew.drew {B e g b : Nat} {l bf : List UInt8} {w w1 : World} (hA : Ew B e g b l bf w w1) : Ew B e g b l bf w w1.drew := ⟨hA.ek.same rfl, hA.enc, bd_heap hA.bd rfl, hA.below.drew⟩

set_option maxHeartbeats 8000000 in
set_option maxRecDepth 100000 in
theorem close_nil (B e g b : Nat) (l : List UInt8) (w : World) (hE : Ek e g b [] w) (hI : IsEnc g 64 w) (hb : Bd B b l w) :
    Calls Tryd.prog 95 #[.pointer (some ⟨e, 0, none⟩)] w fun r w' => r = .returned .nilIface ∧ Ew B e g b (l ++ b64 []) [] w w' := by
  have c0 := hE.c0
  have c6 : w.cell? ⟨e, 6, none⟩ = some (.int .i64 0) := hE.c6
  have HA : Hid (Ew B e g b (l ++ b64 []) [] w w) := Lib.hid ⟨hE, hI, by simpa [b64] using hb, Below.refl _ _⟩
  clear hE hI hb
  go_enter Tryd.func95, Tryd.ntmps95
  go_wp2_with fail
  go_ret
  exact ⟨rfl, HA.out⟩

set_option maxHeartbeats 16000000 in
set_option maxRecDepth 100000 in
theorem close_1 (B e g b : Nat) (l : List UInt8) (x0 : UInt8) (w : World) (hE : Ek e g b [x0] w) (hI : IsEnc g 64 w) (hb : Bd B b l w) (heb : e ≠ b) (hgb : g ≠ b) (hge : g ≠ e) (hBe : B ≤ e) (hll : l.length ≤ 1099511627776) (hBw : B ≤ w.heap.size) :
    Calls Tryd.prog 95 #[.pointer (some ⟨e, 0, none⟩)] w fun r w' => r = .returned .nilIface ∧ Ew B e g b (l ++ b64 [x0]) [] w w' := by
  have c0 := hE.c0
  have c1 := hE.c1
  have c2 := hE.c2
  have fz := hE.nofz
  have c6 : w.cell? ⟨e, 6, none⟩ = some (.int .i64 1) := hE.c6
  have HC := Lib.hid (enc_call2 hE hI hge (k := 1) rfl (by omega) (by omega))
  have HA : Hid (Ew B e g b l [x0] w w) := Lib.hid ⟨hE, hI, hb, Below.refl _ _⟩
  clear hE hI hb
  go_enter Tryd.func95, Tryd.ntmps95
  go_wp2_with fail
  go_still_tail 16, (by kernel_rfl)
  change wpList _ _ _ _ _ w.drew
  go_wp2_with fail
  refine (HC.out w.drew rfl).mono ?_
  rintro r W1 ⟨rfl, hX⟩
  have A1 : Ew B e g b l [x0] w W1 := ew_sc HA.out.drew hX.1 ((HA.out.drew.ek).sc (by simp) hX.1) heb hge hBe
  have d0 := A1.ek.c0
  have d1 := A1.ek.c1
  have d2 := A1.ek.c2
  have d6 : W1.cell? ⟨e, 6, none⟩ = some (.int .i64 1) := A1.ek.c6
  have fz1 := A1.ek.nofz
  have hz1 : B ≤ W1.heap.size := by have := A1.below.size; omega
  have HC2 := Lib.hid (write_call2 (k := b64 [x0]) (n4 := 4) A1 heb hgb hX.2 rfl (by omega) hz1)
  have HC3 := Lib.hid (encodedLen_call (n := 1) A1.enc (by omega) 4 rfl)
  clear A1 hX HC HA c0 c1 c2 fz c6
  go_wp2_with fail
  go_region_held3 (fun w' => w'.cell? ⟨e, 2, none⟩ = some (.iface 45 (.pointer (some ⟨b, 0, none⟩))) ∧ w'.cell? ⟨e, 1, none⟩ = some (.pointer (some ⟨g, 0, none⟩)) ∧ w'.cell? ⟨e, 6, none⟩ = some (.int .i64 1)) (first | exact ⟨d2, d1, d6⟩ | exact ⟨y2, y1, y6⟩ | exact ⟨(co _ _ _ (by omega)).trans y2, (co _ _ _ (by omega)).trans y1, (co _ _ _ (by omega)).trans y6⟩) (first | (go_at_call 53; refine (HC3.out _ (by exact rfl)).mono ?_; rintro r W2 ⟨rfl, rfl⟩) | (go_at_call 27; refine (HC2.out _ (by exact ⟨rfl, rfl, rfl, rfl⟩)).mono ?_; rintro r W2 ⟨rfl, hY⟩; have y0 := hY.ek.c0; have y1 := hY.ek.c1; have y2 := hY.ek.c2; have y6 : W2.cell? ⟨e, 6, none⟩ = some (.int .i64 1) := hY.ek.c6; have yz := hY.ek.nofz))
  all_goals
    have A3 : Ew B e g b (l ++ b64 [x0]) [x0] w (W2.setCell ⟨e, 0, none⟩ .nilIface) := ew_sc hY (Sc.set e 0 0 W2 .nilIface (by omega)) (ek_err hY.ek) heb hge hBe
    obtain ⟨W3, hW3⟩ : ∃ W3, W3 = W2.setCell ⟨e, 0, none⟩ .nilIface := ⟨_, rfl⟩
    rw [← hW3] at A3 ⊢
    clear hY y0 y1 y2 y6 yz hW3 HC2 HC3 fz1 d0 d1 d2 d6
    have c0 := A3.ek.c0
    have c6 : W3.cell? ⟨e, 6, none⟩ = some (.int .i64 1) := A3.ek.c6
    have fz := A3.ek.nofz
    have A4 : Ew B e g b (l ++ b64 [x0]) [] w (W3.setCell ⟨e, 6, none⟩ (.int .i64 0)) := ew_sc A3 (Sc.set e 6 6 W3 (.int .i64 0) (by omega)) (ek_nb (bf' := []) A3.ek (fun j x hx => by simp at hx) (by simp)) heb hge hBe
    have HA4 := Lib.hid A4
    clear A3 A4
    go_wp2_with fail
    go_ret
    exact ⟨rfl, HA4.out⟩

set_option maxHeartbeats 16000000 in
set_option maxRecDepth 100000 in
theorem close_2 (B e g b : Nat) (l : List UInt8) (x0 x1 : UInt8) (w : World) (hE : Ek e g b [x0, x1] w) (hI : IsEnc g 64 w) (hb : Bd B b l w) (heb : e ≠ b) (hgb : g ≠ b) (hge : g ≠ e) (hBe : B ≤ e) (hll : l.length ≤ 1099511627776) (hBw : B ≤ w.heap.size) :
    Calls Tryd.prog 95 #[.pointer (some ⟨e, 0, none⟩)] w fun r w' => r = .returned .nilIface ∧ Ew B e g b (l ++ b64 [x0, x1]) [] w w' := by
  have c0 := hE.c0
  have c1 := hE.c1
  have c2 := hE.c2
  have fz := hE.nofz
  have c6 : w.cell? ⟨e, 6, none⟩ = some (.int .i64 2) := hE.c6
  have HC := Lib.hid (enc_call2 hE hI hge (k := 2) rfl (by omega) (by omega))
  have HA : Hid (Ew B e g b l [x0, x1] w w) := Lib.hid ⟨hE, hI, hb, Below.refl _ _⟩
  clear hE hI hb
  go_enter Tryd.func95, Tryd.ntmps95
  go_wp2_with fail
  go_still_tail 16, (by kernel_rfl)
  change wpList _ _ _ _ _ w.drew
  go_wp2_with fail
  refine (HC.out w.drew rfl).mono ?_
  rintro r W1 ⟨rfl, hX⟩
  have A1 : Ew B e g b l [x0, x1] w W1 := ew_sc HA.out.drew hX.1 ((HA.out.drew.ek).sc (by simp) hX.1) heb hge hBe
  have d0 := A1.ek.c0
  have d1 := A1.ek.c1
  have d2 := A1.ek.c2
  have d6 : W1.cell? ⟨e, 6, none⟩ = some (.int .i64 2) := A1.ek.c6
  have fz1 := A1.ek.nofz
  have hz1 : B ≤ W1.heap.size := by have := A1.below.size; omega
  have HC2 := Lib.hid (write_call2 (k := b64 [x0, x1]) (n4 := 4) A1 heb hgb hX.2 rfl (by omega) hz1)
  have HC3 := Lib.hid (encodedLen_call (n := 2) A1.enc (by omega) 4 rfl)
  clear A1 hX HC HA c0 c1 c2 fz c6
  go_wp2_with fail
  go_region_held3 (fun w' => w'.cell? ⟨e, 2, none⟩ = some (.iface 45 (.pointer (some ⟨b, 0, none⟩))) ∧ w'.cell? ⟨e, 1, none⟩ = some (.pointer (some ⟨g, 0, none⟩)) ∧ w'.cell? ⟨e, 6, none⟩ = some (.int .i64 2)) (first | exact ⟨d2, d1, d6⟩ | exact ⟨y2, y1, y6⟩ | exact ⟨(co _ _ _ (by omega)).trans y2, (co _ _ _ (by omega)).trans y1, (co _ _ _ (by omega)).trans y6⟩) (first | (go_at_call 53; refine (HC3.out _ (by exact rfl)).mono ?_; rintro r W2 ⟨rfl, rfl⟩) | (go_at_call 27; refine (HC2.out _ (by exact ⟨rfl, rfl, rfl, rfl⟩)).mono ?_; rintro r W2 ⟨rfl, hY⟩; have y0 := hY.ek.c0; have y1 := hY.ek.c1; have y2 := hY.ek.c2; have y6 : W2.cell? ⟨e, 6, none⟩ = some (.int .i64 2) := hY.ek.c6; have yz := hY.ek.nofz))
  all_goals
    have A3 : Ew B e g b (l ++ b64 [x0, x1]) [x0, x1] w (W2.setCell ⟨e, 0, none⟩ .nilIface) := ew_sc hY (Sc.set e 0 0 W2 .nilIface (by omega)) (ek_err hY.ek) heb hge hBe
    obtain ⟨W3, hW3⟩ : ∃ W3, W3 = W2.setCell ⟨e, 0, none⟩ .nilIface := ⟨_, rfl⟩
    rw [← hW3] at A3 ⊢
    clear hY y0 y1 y2 y6 yz hW3 HC2 HC3 fz1 d0 d1 d2 d6
    have c0 := A3.ek.c0
    have c6 : W3.cell? ⟨e, 6, none⟩ = some (.int .i64 2) := A3.ek.c6
    have fz := A3.ek.nofz
    have A4 : Ew B e g b (l ++ b64 [x0, x1]) [] w (W3.setCell ⟨e, 6, none⟩ (.int .i64 0)) := ew_sc A3 (Sc.set e 6 6 W3 (.int .i64 0) (by omega)) (ek_nb (bf' := []) A3.ek (fun j x hx => by simp at hx) (by simp)) heb hge hBe
    have HA4 := Lib.hid A4
    clear A3 A4
    go_wp2_with fail
    go_ret
    exact ⟨rfl, HA4.out⟩

end Go.Proofs.YtedhgkddfgpfhaaDoor.Ew
