/- The walk of base64's Decode, at what Encode has written. -/
import Derived.Test.YtedhgkddfgpfhaaDoorDd
namespace Go.Proofs.YtedhgkddfgpfhaaDoor.De
open Go.RowKit Go.Proofs.YtedhgkddfgpfhaaDoor.B64 Go.Proofs.YtedhgkddfgpfhaaDoor.N Go.Proofs.YtedhgkddfgpfhaaDoor.En Go.Proofs.YtedhgkddfgpfhaaDoor.Ew Go.Proofs.YtedhgkddfgpfhaaDoor.Dq Go.Proofs.YtedhgkddfgpfhaaDoor.Da Go.Proofs.YtedhgkddfgpfhaaDoor.Dd

theorem ofNat_eq (k : Nat) (x : UInt8) (h : k % 256 = x.toNat) : UInt8.ofNat k = x := by
  apply UInt8.toNat_inj.1; rw [← h]; simp

theorem b64_at (d : List UInt8) (j : Nat) (h : 3 * j ≤ d.length) : (b64 d).drop (4 * j) = b64 (d.drop (3 * j)) := by
  have e : b64 d = b64 (d.take (3 * j)) ++ b64 (d.drop (3 * j)) := by
    rw [← b64_append _ _ (by rw [List.length_take]; omega), List.take_append_drop]
  have hl : (b64 (d.take (3 * j))).length = 4 * j := by rw [b64_len, List.length_take]; omega
  rw [e, List.drop_left' hl]

theorem at_drop {l r : List UInt8} {k : Nat} (h : l.drop k = r) (i : Nat) : l[k + i]? = r[i]? := by rw [← h, List.getElem?_drop]

structure Grp (d : List UInt8) (j : Nat) (x0 x1 x2 : UInt8) (m0 m1 m2 m3 : Nat) : Prop where
  h0 : m0 < 64
  h1 : m1 < 64
  h2 : m2 < 64
  h3 : m3 < 64
  v : x0.toNat * 65536 + x1.toNat * 256 + x2.toNat = m0 * 262144 + m1 * 4096 + m2 * 64 + m3
  s0 : (b64 d)[4 * j]? = some (al m0)
  s1 : (b64 d)[4 * j + 1]? = some (al m1)
  s2 : (b64 d)[4 * j + 2]? = some (al m2)
  s3 : (b64 d)[4 * j + 3]? = some (al m3)
  tk : d.take (3 * j + 3) = d.take (3 * j) ++ [x0, x1, x2]

theorem grp (d : List UInt8) (j : Nat) (h : 3 * j + 3 ≤ d.length) : ∃ x0 x1 x2 m0 m1 m2 m3, Grp d j x0 x1 x2 m0 m1 m2 m3 := by
  obtain ⟨x0, x1, x2, r, hr⟩ : ∃ x0 x1 x2 r, d.drop (3 * j) = x0 :: x1 :: x2 :: r :=
    ⟨d[3 * j], d[3 * j + 1], d[3 * j + 2], d.drop (3 * j + 3), by
      rw [List.drop_eq_getElem_cons (by omega), List.drop_eq_getElem_cons (by omega), List.drop_eq_getElem_cons (by omega)]⟩
  have hb := b64_at d j (by omega)
  rw [hr, b64] at hb
  have a0 := x0.toNat_lt
  have a1 := x1.toNat_lt
  have a2 := x2.toNat_lt
  obtain ⟨v, hv⟩ : ∃ v, v = x0.toNat * 65536 + x1.toNat * 256 + x2.toNat := ⟨_, rfl⟩
  rw [← hv] at hb
  refine ⟨x0, x1, x2, v / 262144 % 64, v / 4096 % 64, v / 64 % 64, v % 64, ⟨Nat.mod_lt _ (by omega), Nat.mod_lt _ (by omega), Nat.mod_lt _ (by omega), Nat.mod_lt _ (by omega), by omega, at_drop hb 0, at_drop hb 1, at_drop hb 2, at_drop hb 3, ?_⟩⟩
  rw [List.take_add, hr]; rfl

theorem grp2 (d : List UInt8) (j : Nat) (h : d.length = 3 * j + 2) : ∃ x0 x1 m0 m1 m2, m0 < 64 ∧ m1 < 64 ∧ m2 < 64 ∧ x0.toNat * 65536 + x1.toNat * 256 = m0 * 262144 + m1 * 4096 + m2 * 64 ∧
    (b64 d)[4 * j]? = some (al m0) ∧ (b64 d)[4 * j + 1]? = some (al m1) ∧ (b64 d)[4 * j + 2]? = some (al m2) ∧ (b64 d)[4 * j + 3]? = some 61 ∧ d = d.take (3 * j) ++ [x0, x1] := by
  obtain ⟨x0, x1, hr⟩ : ∃ x0 x1, d.drop (3 * j) = [x0, x1] :=
    ⟨d[3 * j], d[3 * j + 1], by
      rw [List.drop_eq_getElem_cons (by omega), List.drop_eq_getElem_cons (by omega), List.drop_eq_nil_of_le (by omega)]⟩
  have hb := b64_at d j (by omega)
  rw [hr, b64] at hb
  have a0 := x0.toNat_lt
  have a1 := x1.toNat_lt
  obtain ⟨v, hv⟩ : ∃ v, v = x0.toNat * 65536 + x1.toNat * 256 := ⟨_, rfl⟩
  rw [← hv] at hb
  refine ⟨x0, x1, v / 262144 % 64, v / 4096 % 64, v / 64 % 64, Nat.mod_lt _ (by omega), Nat.mod_lt _ (by omega), Nat.mod_lt _ (by omega), by omega, at_drop hb 0, at_drop hb 1, at_drop hb 2, at_drop hb 3, ?_⟩
  rw [← hr, List.take_append_drop]

theorem grp1 (d : List UInt8) (j : Nat) (h : d.length = 3 * j + 1) : ∃ (x0 : UInt8) (m0 m1 : Nat), m0 < 64 ∧ m1 < 64 ∧ x0.toNat * 65536 = m0 * 262144 + m1 * 4096 ∧
    (b64 d)[4 * j]? = some (al m0) ∧ (b64 d)[4 * j + 1]? = some (al m1) ∧ (b64 d)[4 * j + 2]? = some 61 ∧ (b64 d)[4 * j + 3]? = some 61 ∧ d = d.take (3 * j) ++ [x0] := by
  obtain ⟨x0, hr⟩ : ∃ x0, d.drop (3 * j) = [x0] :=
    ⟨d[3 * j], by rw [List.drop_eq_getElem_cons (by omega), List.drop_eq_nil_of_le (by omega)]⟩
  have hb := b64_at d j (by omega)
  rw [hr, b64] at hb
  have a0 := x0.toNat_lt
  obtain ⟨v, hv⟩ : ∃ v, v = x0.toNat * 65536 := ⟨_, rfl⟩
  rw [← hv] at hb
  refine ⟨x0, v / 262144 % 64, v / 4096 % 64, Nat.mod_lt _ (by omega), Nat.mod_lt _ (by omega), by omega, at_drop hb 0, at_drop hb 1, at_drop hb 2, at_drop hb 3, ?_⟩
  rw [← hr, List.take_append_drop]

theorem out_join {D n : Nat} {l k : List UInt8} {w w' : World} (h : Out D 0 l w) (hl : l.length = n) (hc : ∀ i, i < n → w'.cell? ⟨D, i, none⟩ = w.cell? ⟨D, i, none⟩) (hk : Out D n k w') : Out D 0 (l ++ k) w' := by
  intro i x hx
  by_cases hi : i < n
  · rw [List.getElem?_append_left (by omega)] at hx
    have := h i x hx
    rw [Nat.zero_add] at this ⊢
    rw [hc i hi]; exact this
  · rw [List.getElem?_append_right (by omega)] at hx
    have := hk (i - n) x (by rw [← hl]; exact hx)
    rw [show n + (i - n) = 0 + i by omega] at this
    exact this
theorem out_pre {D n : Nat} {l k : List UInt8} {w : World} (h : Out D n (l ++ k) w) : Out D n l w := by
  intro i x hx
  exact h i x (by rw [List.getElem?_append_left (List.getElem?_eq_some_iff.1 hx).1]; exact hx)

theorem sc_zero {D n : Nat} {w w' : World} (h : Sc D n w w') : Sc D 0 w w' :=
  ⟨h.os, h.tape, h.output, h.size, h.block, fun o ho => absurd ho (Nat.not_lt_zero o), h.some_, h.frozen, h.shape⟩
theorem pc_at {D sb : Nat} {l : List UInt8} {w wr : World} (hP : Pc sb 0 l w) (hs : Sc D 0 w wr) (hne : sb ≠ D) (k : Nat) (x : UInt8) (h : l[k]? = some x) (i : Nat) (e : i = k) : wr.cell? ⟨sb, i, none⟩ = some (.int .u8 x.toNat) := by
  have := hP k x h
  rw [Nat.zero_add, ← e] at this
  rw [hs.kc sb i hne]; exact this
theorem enc_at {D g : Nat} {w wr : World} (hI : IsEnc g 64 w) (hs : Sc D 0 w wr) (hne : g ≠ D) (m : Nat) (hm : m < 64) : wr.cell? ⟨g, 64 + (al m).toNat, none⟩ = some (.int .u8 m) := by
  rw [hs.kc g _ hne]; exact hI.cell _ _ (by rw [ENC_dec _ _ (al m).toNat_lt, dm_al m hm])

structure Dv (d : List UInt8) (L N j n si : Nat) : Prop where
  hn : n = 3 * j
  hsi : si = 4 * j
  hj : 3 * j + 1 ≤ d.length
  hL : L = (d.length + 2) / 3 * 4
  hN : N = (d.length + 2) / 3 * 3

structure Ds (D : Nat) (d : List UInt8) (j : Nat) (w wr : World) : Prop where
  sc : Sc D 0 w wr
  out : Out D 0 (d.take (3 * j)) wr

theorem ds_six {D n j : Nat} {d : List UInt8} {w wr w1 : World} (h : Ds D d j w wr) (hn : n = 3 * j) (hj : 3 * j + 6 ≤ d.length) {x0 x1 x2 y0 y1 y2 : UInt8} {a b : UInt8} {m0 m1 m2 m3 k0 k1 k2 k3 : Nat} (G : Grp d j x0 x1 x2 m0 m1 m2 m3) (K : Grp d (j + 1) y0 y1 y2 k0 k1 k2 k3)
    (hs : Sc D n wr w1) (ho : Out D n [x0, x1, x2, y0, y1, y2, a, b] w1) : Ds D d (j + 2) w w1 := by
  refine ⟨h.sc.trans (sc_zero hs), ?_⟩
  have e : d.take (3 * (j + 2)) = d.take (3 * j) ++ [x0, x1, x2, y0, y1, y2] := by
    have := K.tk
    rw [show 3 * (j + 1) + 3 = 3 * (j + 2) by omega, show 3 * (j + 1) = 3 * j + 3 by omega, G.tk] at this
    simpa using this
  rw [e]
  exact out_join h.out (by rw [List.length_take]; omega) hs.cell (out_pre (k := [a, b]) ho)

theorem ds_three {D n j : Nat} {d : List UInt8} {w wr w1 : World} (h : Ds D d j w wr) (hn : n = 3 * j) (hj : 3 * j + 3 ≤ d.length) {x0 x1 x2 : UInt8} {a : UInt8} {m0 m1 m2 m3 : Nat} (G : Grp d j x0 x1 x2 m0 m1 m2 m3)
    (hs : Sc D n wr w1) (ho : Out D n [x0, x1, x2, a] w1) : Ds D d (j + 1) w w1 := by
  refine ⟨h.sc.trans (sc_zero hs), ?_⟩
  rw [show 3 * (j + 1) = 3 * j + 3 by omega, G.tk]
  exact out_join h.out (by rw [List.length_take]; omega) hs.cell (out_pre (k := [a]) ho)

theorem Ds.drewN {D j : Nat} {d : List UInt8} {w wr : World} (h : Ds D d j w wr) (n : Nat) : Ds D d j w (wr.drewN n) := ⟨h.sc.drewN n, h.out⟩
theorem mk_at {D N n k : Nat} {w wr : World} (h : Mk D N w) (hs : Sc D 0 w wr) (hn : n + k ≤ N) : ∀ i, i < k → (wr.cell? ⟨D, n + i, none⟩).isSome = true ∧ wr.frozen? ⟨D, n + i, none⟩ = false :=
  fun i hi => ⟨hs.some_ _ (h (n + i) (by omega)).1, (hs.frozen _).trans (h (n + i) (by omega)).2⟩

/-- What the last call leaves. -/
structure La (d : List UInt8) (D n j L : Nat) (w : World) (r : Ending) (w' : World) : Prop where
  ret : r = .returned (.tuple #[.int .i64 L, .int .i64 (d.length - 3 * j : Nat), .nilIface])
  qu : Qu D n (d.drop (3 * j)) w w'

theorem last_any {g D sb L N cap j n si : Nat} {d : List UInt8} {w wr : World} (hI : IsEnc g 64 w) (hP : Pc sb 0 (b64 d) w) (hV : Dv d L N j n si) (hS : Ds D d j w wr) (hlast : d.length ≤ 3 * j + 3) (hL2 : L ≤ 1099511627776) (hM : Mk D N w)
    (hsb : sb < w.heap.size) (hD : D < w.heap.size) (hsD : sb ≠ D) (hgD : g ≠ D) :
    Calls Tryd.prog 59 #[.pointer (some ⟨g, 0, none⟩), .slice (some ⟨D, n, none⟩) (N - n) (N - n), .slice (some ⟨sb, 0, none⟩) L cap, .int .i64 si] wr (La d D n j L wr) := by
  obtain ⟨v1, v2, v3, v4, v5⟩ := hV
  have hI' : IsEnc g 64 wr := (hS.sc.block g hgD).trans hI
  have hsb' : sb < wr.heap.size := by rw [hS.sc.size]; exact hsb
  have hD' : D < wr.heap.size := by rw [hS.sc.size]; exact hD
  have hk := mk_at (n := n) (k := 3) hM hS.sc (by omega)
  have hlen : (d.drop (3 * j)).length = d.length - 3 * j := List.length_drop
  rcases (by omega : d.length = 3 * j + 3 ∨ d.length = 3 * j + 2 ∨ d.length = 3 * j + 1) with h | h | h
  · obtain ⟨x0, x1, x2, m0, m1, m2, m3, G⟩ := grp d j (by omega)
    have hx : d.drop (3 * j) = [x0, x1, x2] := by
      have := G.tk
      rw [← h, List.take_length] at this
      conv => lhs; rw [this]
      exact List.drop_left' (by rw [List.length_take]; omega)
    have gv := G.v
    have a0 := x0.toNat_lt
    have a1 := x1.toNat_lt
    have a2 := x2.toNat_lt
    refine (quantum4 g D n (N - n) sb si L cap m0 m1 m2 m3 G.h0 G.h1 G.h2 G.h3 wr hI' (by omega) hL2 (by omega) (pc_at hP hS.sc hsD _ _ G.s0 si (by omega)) (pc_at hP hS.sc hsD _ _ G.s1 (si + 1) (by omega)) (pc_at hP hS.sc hsD _ _ G.s2 (si + 2) (by omega)) (pc_at hP hS.sc hsD _ _ G.s3 (si + 3) (by omega)) hk hsb' hD' hgD).mono ?_
    rintro r w' ⟨rfl, hq⟩
    rw [← gv, ofNat_eq _ x0 (by omega), ofNat_eq _ x1 (by omega), ofNat_eq _ x2 (by omega)] at hq
    refine ⟨?_, by rw [hx]; exact hq⟩
    rw [show d.length - 3 * j = 3 by omega]; rfl
  · obtain ⟨x0, x1, m0, m1, m2, g0, g1, g2, gv, s0, s1, s2, s3, tk⟩ := grp2 d j h
    have hx : d.drop (3 * j) = [x0, x1] := by
      conv => lhs; rw [tk]
      exact List.drop_left' (by rw [List.length_take]; omega)
    have a0 := x0.toNat_lt
    have a1 := x1.toNat_lt
    refine (quantum3 g D n (N - n) sb si L cap m0 m1 m2 g0 g1 g2 wr hI' (by omega) hL2 (by omega) (pc_at hP hS.sc hsD _ _ s0 si (by omega)) (pc_at hP hS.sc hsD _ _ s1 (si + 1) (by omega)) (pc_at hP hS.sc hsD _ _ s2 (si + 2) (by omega)) (pc_at hP hS.sc hsD _ _ s3 (si + 3) (by omega)) hk hsb' hD' hgD).mono ?_
    rintro r w' ⟨rfl, hq⟩
    rw [← gv, ofNat_eq _ x0 (by omega), ofNat_eq _ x1 (by omega)] at hq
    refine ⟨?_, by rw [hx]; exact hq⟩
    rw [show d.length - 3 * j = 2 by omega]; rfl
  · obtain ⟨x0, m0, m1, g0, g1, gv, s0, s1, s2, s3, tk⟩ := grp1 d j h
    have hx : d.drop (3 * j) = [x0] := by
      conv => lhs; rw [tk]
      exact List.drop_left' (by rw [List.length_take]; omega)
    have a0 := x0.toNat_lt
    refine (quantum2 g D n (N - n) sb si L cap m0 m1 g0 g1 wr hI' (by omega) hL2 (by omega) (pc_at hP hS.sc hsD _ _ s0 si (by omega)) (pc_at hP hS.sc hsD _ _ s1 (si + 1) (by omega)) (pc_at hP hS.sc hsD _ _ s2 (si + 2) (by omega)) (pc_at hP hS.sc hsD _ _ s3 (si + 3) (by omega)) hk hsb' hD' hgD).mono ?_
    rintro r w' ⟨rfl, hq⟩
    rw [← gv, ofNat_eq _ x0 (by omega)] at hq
    refine ⟨?_, by rw [hx]; exact hq⟩
    rw [show d.length - 3 * j = 1 by omega]; rfl

theorem qu_end {D n j : Nat} {d : List UInt8} {w wr w' : World} (hS : Ds D d j w wr) (hn : n = 3 * j) (hj : 3 * j ≤ d.length) (hq : Qu D n (d.drop (3 * j)) wr w') : Qu D 0 d w w' := by
  refine ⟨⟨hq.qp.os.trans hS.sc.os, hq.qp.tape.trans hS.sc.tape, hq.qp.output.trans hS.sc.output, by rw [← hS.sc.size]; exact hq.qp.size, fun k hk hd => ?_, fun i hi => absurd hi (Nat.not_lt_zero i)⟩, ?_⟩
  · exact (hq.qp.block k (by rw [hS.sc.size]; exact hk) hd).trans (hS.sc.block k hd)
  · have := out_join hS.out (by rw [List.length_take]; omega) hq.qp.cell hq.out
    rwa [List.take_append_drop] at this

set_option maxHeartbeats 8000000 in
set_option maxRecDepth 100000 in
theorem decode_any (g D sb L N cap : Nat) (d : List UInt8) (w : World) (hI : IsEnc g 64 w) (hP : Pc sb 0 (b64 d) w) (hL : L = (d.length + 2) / 3 * 4) (hN : N = (d.length + 2) / 3 * 3) (h0 : 0 < d.length) (hL2 : L ≤ 1099511627776) (hcap : L ≤ cap) (hM : Mk D N w)
    (hsb : sb < w.heap.size) (hD : D < w.heap.size) (hsD : sb ≠ D) (hgD : g ≠ D) :
    Calls Tryd.prog 42 #[.pointer (some ⟨g, 0, none⟩), .slice (some ⟨D, 0, none⟩) N N, .slice (some ⟨sb, 0, none⟩) L cap] w fun r w' => r = .returned (.tuple #[.int .i64 d.length, .nilIface]) ∧ Qu D 0 d w w' := by
  have hg := hI.lt
  have HI := Lib.hid hI
  have HP := Lib.hid hP
  have HK := Lib.hid hM
  have hL0 : 0 < L := by omega
  have hNL : N ≤ L := by omega
  have bz : ((L : Int) == 0) = false := by rw [beq_eq_false_iff_ne]; omega
  have HM := Lib.hid (decMap_cells hI)
  have HV : Hid (Dv d L N 0 0 0) := Lib.hid ⟨rfl, rfl, by omega, hL, hN⟩
  have H0 := Lib.hid h0
  clear hI hP hM hL hN h0
  go_enter Tryd.func42, Tryd.ntmps42
  go_wp2_with (refine wpList_load_cells rfl 38 _ rfl ⟨g, 64, none⟩ rfl decMap HM.out _ Tryd.underlying38 rfl (by rw [decMap_len]; exact info38) ?_)
  generalize decMap.toArray = EH
  clear HM
  go_loopw [6, 7, 8] (fun nn er ss wr => ∃ j n si : Nat, nn = .int .i64 n ∧ er = .nilIface ∧ ss = .int .i64 si ∧ n ≤ N ∧ si ≤ L ∧ Hid (Dv d L N j n si) ∧ Hid (Ds D d j w wr)) (fun _ _ ss _ => L - (intOf ss).toNat)
  case atStart => exact ⟨0, 0, 0, rfl, rfl, rfl, Nat.zero_le _, Nat.zero_le _, HV, Lib.hid ⟨Sc.refl _ _ _, by intro i x hx; simp at hx⟩⟩
  case round =>
    clear HV
    obtain ⟨j, n, si, rfl, rfl, rfl, hn, hsi, HV, HD⟩ := hrel
    by_cases h8 : n + 8 ≤ N
    · have b1 : decide (8 ≤ (N : Int) - (n : Int)) = true := decide_eq_true (by omega)
      obtain ⟨v1, v2, v3, v4, v5⟩ := HV.out
      have b2 : decide (8 ≤ (L : Int) - (si : Int)) = true := decide_eq_true (by omega)
      have hsi8 : si + 8 ≤ L := by omega
      obtain ⟨x0, x1, x2, m0, m1, m2, m3, G⟩ := grp d j (by omega)
      obtain ⟨y0, y1, y2, k0, k1, k2, k3, K⟩ := grp d (j + 1) (by omega)
      have HGK := Lib.hid (And.intro G K)
      have c0 := pc_at HP.out HD.out.sc hsD _ _ G.s0 si (by omega)
      have c1 := pc_at HP.out HD.out.sc hsD _ _ G.s1 (si + 1) (by omega)
      have c2 := pc_at HP.out HD.out.sc hsD _ _ G.s2 (si + 2) (by omega)
      have c3 := pc_at HP.out HD.out.sc hsD _ _ G.s3 (si + 3) (by omega)
      have c4 := pc_at HP.out HD.out.sc hsD _ _ K.s0 (si + 4) (by omega)
      have c5 := pc_at HP.out HD.out.sc hsD _ _ K.s1 (si + 5) (by omega)
      have c6 := pc_at HP.out HD.out.sc hsD _ _ K.s2 (si + 6) (by omega)
      have c7 := pc_at HP.out HD.out.sc hsD _ _ K.s3 (si + 7) (by omega)
      have e0 := enc_at HI.out HD.out.sc hgD m0 G.h0
      have e1 := enc_at HI.out HD.out.sc hgD m1 G.h1
      have e2 := enc_at HI.out HD.out.sc hgD m2 G.h2
      have e3 := enc_at HI.out HD.out.sc hgD m3 G.h3
      have e4 := enc_at HI.out HD.out.sc hgD k0 K.h0
      have e5 := enc_at HI.out HD.out.sc hgD k1 K.h1
      have e6 := enc_at HI.out HD.out.sc hgD k2 K.h2
      have e7 := enc_at HI.out HD.out.sc hgD k3 K.h3
      have t0 := (al m0).toNat_lt
      have t1 := (al m1).toNat_lt
      have t2 := (al m2).toNat_lt
      have t3 := (al m3).toNat_lt
      have t4 := (al k0).toNat_lt
      have t5 := (al k1).toNat_lt
      have t6 := (al k2).toNat_lt
      have t7 := (al k3).toNat_lt
      have HV2 : Hid (Dv d L N (j + 2) (n + 6) (si + 8)) := Lib.hid ⟨by omega, by omega, by omega, v4, v5⟩
      have Hj : Hid (3 * j + 6 ≤ d.length) := Lib.hid (by omega)
      clear G K v1 v2 v3 v4 v5
      have i0 : (((al m0).toNat : Nat) : Int) < 256 := by have := (al m0).toNat_lt; omega
      have i1 : (((al m1).toNat : Nat) : Int) < 256 := by have := (al m1).toNat_lt; omega
      have i2 : (((al m2).toNat : Nat) : Int) < 256 := by have := (al m2).toNat_lt; omega
      have i3 : (((al m3).toNat : Nat) : Int) < 256 := by have := (al m3).toNat_lt; omega
      have i4 : (((al k0).toNat : Nat) : Int) < 256 := by have := (al k0).toNat_lt; omega
      have i5 : (((al k1).toNat : Nat) : Int) < 256 := by have := (al k1).toNat_lt; omega
      have i6 : (((al k2).toNat : Nat) : Int) < 256 := by have := (al k2).toNat_lt; omega
      have i7 : (((al k3).toNat : Nat) : Int) < 256 := by have := (al k3).toNat_lt; omega
      go_wp2_with fail
      go_quiet ((go_at_call 57; exact Calls.quiet_of_same (assemble64_any m0 m1 m2 m3 k0 k1 k2 k3 HGK.out.1.h0 HGK.out.1.h1 HGK.out.1.h2 HGK.out.1.h3 HGK.out.2.h0 HGK.out.2.h1 HGK.out.2.h2 HGK.out.2.h3 _)))
      obtain ⟨V, hV⟩ : ∃ V, V = (m0 * 262144 + m1 * 4096 + m2 * 64 + m3) * 1099511627776 + (k0 * 262144 + k1 * 4096 + k2 * 64 + k3) * 65536 := ⟨_, rfl⟩
      have hVc : ((m0 : Int) * 262144 + m1 * 4096 + m2 * 64 + m3) * 1099511627776 + ((k0 : Int) * 262144 + k1 * 4096 + k2 * 64 + k3) * 65536 = (V : Int) := by rw [hV]; simp
      have HVV := Lib.hid hV
      clear hV
      go_wp2_with fail
      rw [hVc]
      refine (put64_any D n (N - n) (N - n) V (wr.drewN nq) ?_ (by omega) (mk_at HK.out (HD.out.sc.drewN nq) h8)).mono ?_
      · obtain ⟨G, K⟩ := HGK.out
        have := G.v; have := K.v; have := HVV.out
        have := x0.toNat_lt; have := x1.toNat_lt; have := x2.toNat_lt; have := y0.toNat_lt; have := y1.toNat_lt; have := y2.toNat_lt
        omega
      rintro r wx ⟨rfl, hs1, ho1⟩
      have HD2 : Hid (Ds D d (j + 2) w wx) := by
        obtain ⟨G, K⟩ := HGK.out
        have := G.v; have := K.v; have := HVV.out
        have := x0.toNat_lt; have := x1.toNat_lt; have := x2.toNat_lt; have := y0.toNat_lt; have := y1.toNat_lt; have := y2.toNat_lt
        rw [ofNat_eq _ x0 (by omega), ofNat_eq (V / _) x1 (by omega), ofNat_eq (V / _) x2 (by omega), ofNat_eq (V / _) y0 (by omega), ofNat_eq (V / _) y1 (by omega), ofNat_eq (V / _) y2 (by omega)] at ho1
        exact Lib.hid (ds_six (HD.out.drewN nq) HV.out.hn Hj.out G K hs1 ho1)
      clear hs1 ho1 hVc c0 c1 c2 c3 c4 c5 c6 c7 e0 e1 e2 e3 e4 e5 e6 e7
      go_wp2_with fail
      exact ⟨⟨j + 2, n + 6, si + 8, by go_num, rfl, by go_num, by omega, by omega, HV2, HD2⟩, by simp [intOf]; omega⟩
    · have b1 : decide (8 ≤ (N : Int) - (n : Int)) = false := decide_eq_false (by omega)
      go_upto_region 5 with fail
      go_cut [38] (fun c wx => c = .bool false ∧ wx = wr)
      case first =>
        by_cases hb : 8 ≤ (L : Int) - (si : Int)
        · have b2 := decide_eq_true hb
          go_wp2_with fail
          go_meet
          exact ⟨rfl, rfl⟩
        · have b2 := decide_eq_false hb
          go_wp2_with fail
          go_meet
          exact ⟨rfl, rfl⟩
      case rest =>
        obtain ⟨rfl, rfl⟩ := hcut
        clear b1 h8
        go_wp2_with fail
        go_loopw [6, 7, 8] (fun nn er ss wr => ∃ j n si : Nat, nn = .int .i64 n ∧ er = .nilIface ∧ ss = .int .i64 si ∧ n ≤ N ∧ si ≤ L ∧ Hid (Dv d L N j n si) ∧ Hid (Ds D d j w wr)) (fun _ _ ss _ => L - (intOf ss).toNat)
        case atStart => exact ⟨j, n, si, rfl, rfl, rfl, hn, hsi, HV, HD⟩
        case round =>
          clear HV HD hn hsi
          obtain ⟨j, n, si, rfl, rfl, rfl, hn, hsi, HV, HD⟩ := hrel
          by_cases h4 : n + 4 ≤ N
          · have b1 : decide (4 ≤ (N : Int) - (n : Int)) = true := decide_eq_true (by omega)
            obtain ⟨v1, v2, v3, v4, v5⟩ := HV.out
            have b2 : decide (4 ≤ (L : Int) - (si : Int)) = true := decide_eq_true (by omega)
            have hsi4 : si + 4 ≤ L := by omega
            obtain ⟨x0, x1, x2, m0, m1, m2, m3, G⟩ := grp d j (by omega)
            have HG := Lib.hid G
            have c0 := pc_at HP.out HD.out.sc hsD _ _ G.s0 si (by omega)
            have c1 := pc_at HP.out HD.out.sc hsD _ _ G.s1 (si + 1) (by omega)
            have c2 := pc_at HP.out HD.out.sc hsD _ _ G.s2 (si + 2) (by omega)
            have c3 := pc_at HP.out HD.out.sc hsD _ _ G.s3 (si + 3) (by omega)
            have e0 := enc_at HI.out HD.out.sc hgD m0 G.h0
            have e1 := enc_at HI.out HD.out.sc hgD m1 G.h1
            have e2 := enc_at HI.out HD.out.sc hgD m2 G.h2
            have e3 := enc_at HI.out HD.out.sc hgD m3 G.h3
            have HV2 : Hid (Dv d L N (j + 1) (n + 3) (si + 4)) := Lib.hid ⟨by omega, by omega, by omega, v4, v5⟩
            have Hj : Hid (3 * j + 3 ≤ d.length) := Lib.hid (by omega)
            clear G v1 v2 v3 v4 v5
            have i0 : (((al m0).toNat : Nat) : Int) < 256 := by have := (al m0).toNat_lt; omega
            have i1 : (((al m1).toNat : Nat) : Int) < 256 := by have := (al m1).toNat_lt; omega
            have i2 : (((al m2).toNat : Nat) : Int) < 256 := by have := (al m2).toNat_lt; omega
            have i3 : (((al m3).toNat : Nat) : Int) < 256 := by have := (al m3).toNat_lt; omega
            go_wp2_with fail
            go_quiet ((go_at_call 60; exact Calls.quiet_of_same (assemble32_any m0 m1 m2 m3 HG.out.h0 HG.out.h1 HG.out.h2 HG.out.h3 _)))
            obtain ⟨V, hV⟩ : ∃ V, V = (m0 * 262144 + m1 * 4096 + m2 * 64 + m3) * 256 := ⟨_, rfl⟩
            have hVc : ((m0 : Int) * 262144 + m1 * 4096 + m2 * 64 + m3) * 256 = (V : Int) := by rw [hV]; simp
            have HVV := Lib.hid hV
            clear hV
            go_wp2_with fail
            rw [hVc]
            refine (put32_any D n (N - n) (N - n) V (wr.drewN nq) ?_ (by omega) (mk_at HK.out (HD.out.sc.drewN nq) h4)).mono ?_
            · have := HG.out.v; have := HVV.out
              have := x0.toNat_lt; have := x1.toNat_lt; have := x2.toNat_lt
              omega
            rintro r wx ⟨rfl, hs1, ho1⟩
            have HD2 : Hid (Ds D d (j + 1) w wx) := by
              have := HG.out.v; have := HVV.out
              have := x0.toNat_lt; have := x1.toNat_lt; have := x2.toNat_lt
              rw [ofNat_eq _ x0 (by omega), ofNat_eq (V / _) x1 (by omega), ofNat_eq (V / _) x2 (by omega)] at ho1
              exact Lib.hid (ds_three (HD.out.drewN nq) HV.out.hn Hj.out HG.out hs1 ho1)
            clear hs1 ho1 hVc c0 c1 c2 c3 e0 e1 e2 e3
            go_wp2_with fail
            exact ⟨⟨j + 1, n + 3, si + 4, by go_num, rfl, by go_num, by omega, by omega, HV2, HD2⟩, by simp [intOf]; omega⟩
          · obtain ⟨v1, v2, v3, v4, v5⟩ := HV.out
            have b1 : decide (4 ≤ (N : Int) - (n : Int)) = false := decide_eq_false (by omega)
            have b2 : decide (4 ≤ (L : Int) - (si : Int)) = true := decide_eq_true (by omega)
            have hsi4 : si < L := by omega
            have hnN : n < N := by omega
            have HX : Hid (d.length ≤ 3 * j + 3 ∧ 3 * j ≤ d.length ∧ n + (d.length - 3 * j) = d.length) := Lib.hid (by omega)
            clear v1 v2 v3 v4 v5
            go_upto_region 29 with fail
            clear b1 b2
            obtain ⟨rr, hrr⟩ : ∃ rr, rr = d.length - 3 * j := ⟨_, rfl⟩
            have hrr2 : n + rr = d.length := by rw [hrr]; exact HX.out.2.2
            have hrr3 : rr ≤ 3 := by have := HX.out.1; omega
            have HR := Lib.hid hrr
            clear hrr
            refine wp_loop_rounds 2 ?_
            rw [rounds_succ]; go_wp2_with fail
            refine (last_any (cap := cap) HI.out HP.out HV.out HD.out HX.out.1 hL2 HK.out hsb hD hsD hgD).mono ?_
            rintro r wx ⟨rfl, hq⟩
            rw [← HR.out]
            have HQ := Lib.hid (qu_end HD.out HV.out.hn HX.out.2.1 hq)
            clear hq
            go_wp2_with fail
            rw [rounds_succ]; go_wp2_with fail
            go_ret2
            have hfin : ((n : Int) + (rr : Int)) = (d.length : Int) := by rw [← hrr2]; simp
            exact ⟨congrArg (fun v => Ending.returned (.tuple #[.int .i64 v, .nilIface])) hfin, HQ.out⟩

end Go.Proofs.YtedhgkddfgpfhaaDoor.De
