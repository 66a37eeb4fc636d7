/- The walk of the stream encoder's Write, of 1 to 60 bytes behind a Close. -/
import Derived.Test.YtedhgkddfgpfhaaDoorEw
namespace Go.Proofs.YtedhgkddfgpfhaaDoor.Ew
open Go.RowKit Go.Proofs.YtedhgkddfgpfhaaDoor.B64 Go.Proofs.YtedhgkddfgpfhaaDoor.N Go.Proofs.YtedhgkddfgpfhaaDoor.En Go.Proofs.YtedhgkddfgpfhaaDoor.Bd

theorem ret_n {a b : Int} {v : Value} (h : a = b) : Ending.returned (.tuple #[.int .i64 a, v]) = .returned (.tuple #[.int .i64 b, v]) := by rw [h]
theorem drop_1 (xs : List UInt8) (q : Nat) (x0 : UInt8) (h0 : xs[q]? = some x0) (hl : xs.length = q + 1) : xs.drop q = [x0] := by
  have h := List.getElem?_eq_some_iff.1 h0
  rw [List.drop_eq_getElem_cons h.1, h.2, List.drop_of_length_le (by omega)]
theorem drop_2 (xs : List UInt8) (q : Nat) (x0 x1 : UInt8) (h0 : xs[q]? = some x0) (h1 : xs[q + 1]? = some x1) (hl : xs.length = q + 2) : xs.drop q = [x0, x1] := by
  have h := List.getElem?_eq_some_iff.1 h0
  have h' := List.getElem?_eq_some_iff.1 h1
  rw [List.drop_eq_getElem_cons h.1, h.2, List.drop_eq_getElem_cons h'.1, h'.2, List.drop_of_length_le (by omega)]

set_option maxHeartbeats 8000000 in
set_option maxRecDepth 100000 in
theorem write_any (B e g b pb po n cap : Nat) (l xs : List UInt8) (w : World) (hE : Ek e g b [] w) (hI : IsEnc g 64 w) (hb : Bd B b l w) (heb : e ≠ b) (hgb : g ≠ b) (hge : g ≠ e) (hBe : B ≤ e) (hn : xs.length = n) (hn0 : 0 < n) (hn2 : n ≤ 60) (hcap : n ≤ cap)
    (hp : Pc pb po xs w) (hpe : pb ≠ e) (hpb : NotRow b w pb) (hll : l.length ≤ 1099511627776) (hBw : B ≤ w.heap.size) :
    Calls Tryd.prog 96 #[.pointer (some ⟨e, 0, none⟩), .slice (some ⟨pb, po, none⟩) n cap] w fun r w' => r = .returned (.tuple #[.int .i64 n, .nilIface]) ∧ Ew B e g b (l ++ b64 (xs.take (n / 3 * 3))) (xs.drop (n / 3 * 3)) w w' := by
  have HE := Lib.hid hE
  have HI := Lib.hid hI
  have HB := Lib.hid hb
  have HN := Lib.hid hn
  have HP := Lib.hid hp
  have HR := Lib.hid hpb
  have c0 := hE.c0
  have c1 := hE.c1
  have c2 := hE.c2
  have c6 : w.cell? ⟨e, 6, none⟩ = some (.int .i64 0) := hE.c6
  have fz := hE.nofz
  clear hE hI hb hn hp hpb
  have Hst : Hid (Wst B e g b pb po l xs w 0 w) := Lib.hid ⟨HE.out, HI.out, by simpa [b64] using HB.out, Below.refl _ _, HP.out, fun _ => HR.out⟩
  go_enter Tryd.func96, Tryd.ntmps96
  go_wp2_with fail
  clear c0 c1 c2 c6 fz HE HI HB HP HR
  go_loopw [1, 4, 5] (fun s1 s4 s5 wr => ∃ (q m c' : Nat) (a : Option Addr), s1 = .slice a m c' ∧ s4 = .int .i64 q ∧ s5 = .nilIface ∧ Hid (q + m = n ∧ (q = 0 ∨ m < 3) ∧ q % 3 = 0 ∧ (0 < m → a = some ⟨pb, po + q, none⟩)) ∧ m ≤ c' ∧ Hid (Wst B e g b pb po l xs w q wr)) (fun s1 _ _ _ => lenOfS s1)
  case atStart => exact ⟨0, n, cap, _, rfl, rfl, rfl, Lib.hid ⟨by omega, .inl rfl, rfl, fun _ => rfl⟩, hcap, Hst⟩
  case round =>
    obtain ⟨q, m, c', a, rfl, rfl, rfl, HQ, hmc, HS⟩ := hrel
    clear Hst
    have hmn : m ≤ 60 := by have := HQ.out.1; omega
    have hqn : q ≤ 60 := by have := HQ.out.1; omega
    have c0 := HS.out.ek.c0
    have c1 := HS.out.ek.c1
    have c2 := HS.out.ek.c2
    have fz := HS.out.ek.nofz
    have hz := HS.out.below.size
    by_cases hm3 : 3 ≤ m
    · obtain ⟨rfl, rfl⟩ : q = 0 ∧ a = some ⟨pb, po, none⟩ := by
        obtain ⟨h1, h2, h3, h4⟩ := HQ.out
        have : q = 0 := by omega
        subst this
        exact ⟨rfl, h4 (by omega)⟩
      obtain rfl : m = n := by have := HQ.out.1; omega
      obtain ⟨k, hk⟩ : ∃ k : Nat, (m : Int) - (m : Int) % 3 = (k : Int) := ⟨m - m % 3, by omega⟩
      have HK : Hid (k = m / 3 * 3) := Lib.hid (by omega)
      have k1 : 3 ≤ k := by omega
      have k2 : k ≤ m := by omega
      go_wp2_with fail
      have i1 : (0 : Int) ≤ (k : Int) := by omega
      have i2 : (k : Int) ≤ (c' : Int) := by omega
      have HC := Lib.hid (enc_call (k := k) (c := c') (xs := xs) HS.out.ek HS.out.enc HS.out.pc hge hpe (by rw [HN.out]; exact k2) (by omega) (by omega) (by omega))
      go_region_with (go_at_call 97; refine (HC.out _ (by exact rfl)).mono ?_; rintro r W1 ⟨rfl, hX⟩)
      obtain ⟨k3, hk3⟩ : ∃ k3 : Nat, IntKind.i64.wrap ((k : Int) / 3) = (k3 : Int) := ⟨k / 3, by rw [IntKind.wrap_i64]; omega⟩
      have hk33 : k3 = k / 3 := by rw [IntKind.wrap_i64] at hk3; omega
      obtain ⟨n4, hn4⟩ : ∃ n4 : Nat, IntKind.i64.wrap ((k3 : Int) * 4) = (n4 : Int) := ⟨k3 * 4, by rw [IntKind.wrap_i64]; omega⟩
      have hn44 : n4 = k3 * 4 := by rw [IntKind.wrap_i64] at hn4; omega
      have HN4 : Hid (n4 = k / 3 * 4) := Lib.hid (by omega)
      have n41 : n4 ≤ 1024 := by omega
      clear hk33 hn44
      have j1 : (n4 : Int) ≤ 1024 := by omega
      have j2 : (0 : Int) ≤ (n4 : Int) := by omega
      have E1 : Ek e g b [] W1 := (HS.out.ek.same (w' := wr.drew) rfl).sc (by simp) hX.1
      have d0 := E1.c0
      have d1 := E1.c1
      have d2 := E1.c2
      have fz1 := E1.nofz
      have A1 : All B e g b pb po l [] xs w W1 := all_sc (w1 := wr.drew) ⟨HS.out.ek.same rfl, HS.out.enc, bd_heap (w := wr) (by simpa [b64] using HS.out.bd) rfl, HS.out.below.drew, HS.out.pc⟩ hX.1 E1 heb hge hpe hBe
      have R1 : NotRow b W1 pb := by
        have h0 := HS.out.row rfl
        refine ⟨h0.1, fun p v T fr hh => h0.2 p v T fr ?_⟩
        have := hX.1.block b (fun e => heb e.symm)
        rw [this] at hh; exact hh
      have hz1 : B ≤ W1.heap.size := by have := hX.1.size; rw [this]; show B ≤ wr.heap.size; omega
      have HC2 := Lib.hid (write_call (k := b64 (xs.take k)) (n4 := n4) A1 R1 heb hgb (by rw [HN.out]; omega) hX.2 (by rw [b64_len, List.length_take, HN.out, HN4.out]; have := HK.out; omega) (by omega) hz1)
      have HA1 := Lib.hid A1
      clear hX E1 A1 R1
      go_wp2_with fail
      go_region_with (go_at_call 27; refine (HC2.out _ (by exact ⟨rfl, rfl, rfl, rfl⟩)).mono ?_; rintro r W2 ⟨rfl, hY⟩; have y0 := hY.ek.c0; have y1 := hY.ek.nofz)
      have A3 : All B e g b pb po (l ++ b64 (xs.take k)) [] xs w (W2.setCell ⟨e, 0, none⟩ .nilIface) := all_sc hY (Sc.set e 0 0 W2 .nilIface (by omega)) (ek_err hY.ek) heb hge hpe hBe
      obtain ⟨W3, hW3⟩ : ∃ W3, W3 = W2.setCell ⟨e, 0, none⟩ .nilIface := ⟨_, rfl⟩
      rw [← hW3] at A3 ⊢
      clear hY y0 y1 hW3 HC2 HA1 fz1 d0 d1 d2 HC c0 c1 c2 fz
      have c0 := A3.ek.c0
      have HA3 := Lib.hid A3
      clear A3
      have hS3 : Hid (Wst B e g b pb po l xs w k W3) := Lib.hid ⟨HA3.out.ek, HA3.out.enc, HA3.out.bd, HA3.out.below, HA3.out.pc, fun h => absurd h (by omega)⟩
      by_cases hcc : k = c'
      · have hkm : k = m := by omega
        subst hcc
        subst hkm
        go_wp2_with fail
        refine ⟨⟨k, 0, 0, _, rfl, rfl, rfl, Lib.hid ⟨by omega, .inr (by omega), by have := HK.out; omega, fun h => absurd h (by omega)⟩, by omega, hS3⟩, by simp only [lenOfS]; omega⟩
      · go_wp2_with fail
        refine ⟨⟨k, m - k, c' - k, _, rfl, rfl, rfl, Lib.hid ⟨by omega, .inr (by have := HK.out; omega), by have := HK.out; omega, fun _ => rfl⟩, by omega, hS3⟩, by simp only [lenOfS]; omega⟩
    · have hq3 : Hid (q = n / 3 * 3 ∧ q + m = n) := Lib.hid (by obtain ⟨h1, h2, h3, h4⟩ := HQ.out; omega)
      have hE := HS.out.ek
      have hso := hE.some_
      have hA : All B e g b pb po (l ++ b64 (xs.take q)) [] xs w wr := ⟨HS.out.ek, HS.out.enc, HS.out.bd, HS.out.below, HS.out.pc⟩
      have HA := Lib.hid hA
      have HSO := Lib.hid hso
      clear hA hE hso
      have hm : m = 0 ∨ m = 1 ∨ m = 2 := by omega
      rcases hm with rfl | rfl | rfl
      · have HD : Hid (xs.drop (n / 3 * 3) = []) := Lib.hid (List.drop_of_length_le (by rw [HN.out]; have := hq3.out; omega))
        have HF := Lib.hid (fin0 HA.out heb hge hpe hBe)
        go_wp2_with fail
        rw [copy0]
        simp only [Result.andThen]
        rw [Oper.upon_value]
        obtain ⟨z6, o6⟩ := Option.isSome_iff_exists.1 (HSO.out 6 (by omega))
        go_wp2_with fail
        go_ret2
        refine ⟨?_, ?_⟩
        · have := hq3.out.2
          exact ret_n (a := (q : Int)) (b := (n : Int)) (v := .nilIface) (by omega)
        · rw [HD.out, ← hq3.out.1]; exact HF.out
      · obtain rfl := HQ.out.2.2.2 (by omega)
        obtain ⟨x0, hx0⟩ : ∃ x, xs[q]? = some x := ⟨_, List.getElem?_eq_getElem (by rw [HN.out]; have := hq3.out; omega)⟩
        have s0 := HS.out.pc _ _ hx0
        have HD : Hid (xs.drop (n / 3 * 3) = [x0]) := Lib.hid (by rw [← hq3.out.1]; exact drop_1 xs q x0 hx0 (by rw [HN.out]; have := hq3.out; omega))
        have H0 := Lib.hid s0
        clear hx0 s0
        have HF := Lib.hid (fin1 x0 HA.out heb hge hpe hBe)
        go_wp2_with fail
        rw [copy1 _ e c' pb (po + q) x0 H0.out (HSO.out 3 (by omega)) (fz 3)]
        simp only [Result.andThen]
        rw [Oper.upon_value]
        obtain ⟨z6, o6⟩ := Option.isSome_iff_exists.1 (HSO.out 6 (by omega))
        go_wp2_with fail
        go_ret2
        refine ⟨?_, ?_⟩
        · have := hq3.out.2
          exact ret_n (a := (q : Int) + 1) (b := (n : Int)) (v := .nilIface) (by omega)
        · rw [HD.out, ← hq3.out.1]; exact HF.out
      · obtain rfl := HQ.out.2.2.2 (by omega)
        obtain ⟨x0, hx0⟩ : ∃ x, xs[q]? = some x := ⟨_, List.getElem?_eq_getElem (by rw [HN.out]; have := hq3.out; omega)⟩
        have s0 := HS.out.pc _ _ hx0
        obtain ⟨x1, hx1⟩ : ∃ x, xs[q + 1]? = some x := ⟨_, List.getElem?_eq_getElem (by rw [HN.out]; have := hq3.out; omega)⟩
        have s1 : wr.cell? ⟨pb, po + q + 1, none⟩ = _ := HS.out.pc _ _ hx1
        have HD : Hid (xs.drop (n / 3 * 3) = [x0, x1]) := Lib.hid (by rw [← hq3.out.1]; exact drop_2 xs q x0 x1 hx0 hx1 (by rw [HN.out]; have := hq3.out; omega))
        have H0 := Lib.hid s0
        have H1 := Lib.hid s1
        clear hx0 s0 hx1 s1
        have HF := Lib.hid (fin2 x0 x1 HA.out heb hge hpe hBe)
        go_wp2_with fail
        rw [copy2 _ e c' pb (po + q) x0 x1 H0.out H1.out HSO.out fz]
        simp only [Result.andThen]
        rw [Oper.upon_value]
        obtain ⟨z6, o6⟩ := Option.isSome_iff_exists.1 (HSO.out 6 (by omega))
        go_wp2_with fail
        go_ret2
        refine ⟨?_, ?_⟩
        · have := hq3.out.2
          exact ret_n (a := (q : Int) + 2) (b := (n : Int)) (v := .nilIface) (by omega)
        · rw [HD.out, ← hq3.out.1]; exact HF.out

end Go.Proofs.YtedhgkddfgpfhaaDoor.Ew
