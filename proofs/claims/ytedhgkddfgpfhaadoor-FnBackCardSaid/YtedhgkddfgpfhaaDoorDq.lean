/- The walks of fromHex, readHexByte and qDecode, at what the Q encoding has written. -/
import Derived.Test.YtedhgkddfgpfhaaDoorEy
namespace Go.Proofs.YtedhgkddfgpfhaaDoor.Dq
open Go.RowKit Go.Proofs.YtedhgkddfgpfhaaDoor.A Go.Proofs.YtedhgkddfgpfhaaDoor.En Go.Proofs.YtedhgkddfgpfhaaDoor.Ew Go.Proofs.YtedhgkddfgpfhaaDoor.Q

theorem hexd_nat (n : Nat) (h : n < 16) : (hexd n).toNat = if n < 10 then 48 + n else 55 + n := by
  unfold hexd
  split
  · simp; omega
  · simp; omega

set_option maxHeartbeats 1000000 in
theorem fromHex_any (n v : Nat) (hn : n < 16) (hv : v = if n < 10 then 48 + n else 55 + n) (w : World) :
    Calls Tryd.prog 62 #[.int .u8 v] w fun r w' => r = .returned (.tuple #[.int .u8 n, .nilIface]) ∧ w = w' := by
  by_cases h : n < 10
  · rw [if_pos h] at hv
    subst hv
    go_enter Tryd.func62, Tryd.ntmps62
    go_wp2
    go_ret2
    exact ⟨by go_num, rfl⟩
  · rw [if_neg h] at hv
    subst hv
    go_enter Tryd.func62, Tryd.ntmps62
    go_wp2
    go_ret2
    exact ⟨by go_num, rfl⟩

theorem wraps8 (n : Int) (h0 : 0 ≤ n) (h1 : n < 2 ^ 8) : IntKind.u8.wrap n = n := by rw [IntKind.wrap_u8]; omega

set_option maxHeartbeats 1000000 in
theorem readHex_any (c : Nat) (hc : c < 256) (a b : Nat) (ha : a = (hexd (c / 16)).toNat) (hb : b = (hexd (c % 16)).toNat) (w : World) :
    Calls Tryd.prog 43 #[.int .u8 a, .int .u8 b] w fun r w' => r = .returned (.tuple #[.int .u8 c, .nilIface]) ∧ w = w' := by
  rw [hexd_nat _ (by omega)] at ha hb
  have HA := Lib.hid ha
  have HB := Lib.hid hb
  clear ha hb
  have hor : bits .or .u8 ((c : Int) / 16 * 16) ((c : Int) % 16) = (c : Int) := by
    rw [bits_join .u8 8 (by decide) wraps8 4 _ _ (by omega) (by omega) (by omega) (by omega) (by omega) (by omega)]
    omega
  go_enter Tryd.func43, Tryd.ntmps43
  go_wp2_with fail
  refine (fromHex_any (c / 16) a (by omega) HA.out w).mono ?_
  rintro r w1 ⟨rfl, rfl⟩
  go_wp2_with fail
  refine (fromHex_any (c % 16) b (by omega) HB.out w).mono ?_
  rintro r w1 ⟨rfl, rfl⟩
  go_wp2_with fail
  go_ret2
  exact ⟨by go_num, rfl⟩

theorem drop_cons {s : ByteArray} {i : Nat} {x : UInt8} {r : List UInt8} (h : s.data.toList.drop i = x :: r) : ∃ h : i < s.size, s[i] = x ∧ s.data.toList.drop (i + 1) = r := by
  have hl : i < s.data.toList.length := by
    rcases Nat.lt_or_ge i s.data.toList.length with h1 | h1
    · exact h1
    · rw [List.drop_eq_nil_of_le h1] at h; cases h
  rw [List.drop_eq_getElem_cons hl] at h
  injection h with h1 h2
  exact ⟨by simpa using hl, h1, h2⟩

theorem qch_space {c : UInt8} (h : c.toNat = 32) : qch c = [95] := by simp [qch, h]
theorem qch_plain {c : UInt8} (h : c.toNat ≠ 32) (hp : plainQ c = true) : qch c = [c] := by simp [qch, h, hp]
theorem qch_hex {c : UInt8} (h : c.toNat ≠ 32) (hp : plainQ c = false) : qch c = [61, hexd (c.toNat / 16), hexd (c.toNat % 16)] := by simp [qch, h, hp]

/-- What decoding answers: the bytes d in a row that is new. -/
def Dec (d : List UInt8) (w : World) (r : Ending) (w' : World) : Prop :=
  ∃ g cap, r = .returned (.tuple #[.slice (some ⟨g, 0, none⟩) d.length cap, .nilIface]) ∧ Pc g 0 d w' ∧ w.heap.size ≤ g ∧ Below w.heap.size w w'

theorem below_of_sc {g lo B : Nat} {w w1 w2 : World} (h : Below B w w1) (hg : B ≤ g) (hs : Sc g lo w1 w2) : Below B w w2 :=
  h.trans ⟨hs.os, hs.tape, hs.output, Nat.le_of_eq hs.size.symm, fun k hk => hs.block k (by omega)⟩

/-- A row of n cells that can be written. -/
def Mk (g n : Nat) (w : World) : Prop := ∀ j, j < n → (w.cell? ⟨g, j, none⟩).isSome = true ∧ w.frozen? ⟨g, j, none⟩ = false
theorem Mk.sc {g n lo : Nat} {w w' : World} (h : Mk g n w) (hs : Sc g lo w w') : Mk g n w' := fun j hj => ⟨hs.some_ j (h j hj).1, (hs.frozen j).trans (h j hj).2⟩

/-- 'make([]byte, n)'. -/
theorem make_bytes (n : Nat) (hn : n ≤ 2199023255552) (w : World) : ∃ W, (Instr.makeSlice 46 (.int .i64 n) (.int .i64 n)).run Tryd.prog w = .ok (.slice (some ⟨w.heap.size, 0, none⟩) n n) W ∧ Hid (Mk w.heap.size n W) ∧ Hid (Below w.heap.size w W) ∧ Hid (W.heap.size = w.heap.size + 1) := by
  obtain ⟨i0, hi, hz0, hz1, hz2⟩ := info_parts Bd.info8
  have h := run_make (P := Tryd.prog) (w := w) 46 5 i0 _ Tryd.underlying46 hi hz0 .i64 .i64 (n : Int) (n : Int) (by omega) (Int.le_refl _) (by rw [hz2]; omega) (by omega)
  refine ⟨_, h, Lib.hid ?_, Lib.hid ((Below.refl _ w).alloc (Nat.le_refl _) _), Lib.hid (by simp)⟩
  intro j hj
  have hh := heap_alloc_new w (.cells (madeCells (Value.int .u8 0).cells ((n : Int).toNat * i0.size)) 5)
  rw [Lib.cell_of_heap hh]
  refine ⟨?_, Lib.frozen_of_heap hh j⟩
  rw [Array.getElem?_eq_getElem (by rw [size_madeCells, hz1]; omega)]
  rfl

structure Qd (s : ByteArray) (d : List UInt8) (k p : Nat) : Prop where
  hk : k ≤ d.length
  hd : s.data.toList.drop p = qenc (d.drop k)
  hkp : k ≤ p
  hp : p ≤ s.size

structure St (g : Nat) (d : List UInt8) (k : Nat) (W w : World) : Prop where
  sc : Sc g 0 W w
  out : Out g 0 (d.take k) w

theorem St.step {g : Nat} {d : List UInt8} {k n : Nat} {W w : World} (h : St g d k W w) (hk : k < d.length) (v : Value) (hv : v = .int .u8 (d[k]).toNat) (hm : Mk g n W) (hkn : k < n) : St g d (k + 1) W (w.setCell ⟨g, k, none⟩ v) := by
  subst hv
  refine ⟨h.sc.trans (Sc.set g 0 k w _ (Nat.zero_le _)), ?_⟩
  rw [List.take_succ_eq_append_getElem hk]
  have := h.out.snoc (m := k) (by rw [List.length_take]; omega) d[k] (by rw [Nat.zero_add]; exact h.sc.some_ k (hm k hkn).1)
  rw [Nat.zero_add] at this
  exact this
theorem St.drewN {g : Nat} {d : List UInt8} {k : Nat} {W w : World} (h : St g d k W w) (n : Nat) : St g d k W (w.drewN n) := ⟨h.sc.drewN n, h.out⟩

set_option maxHeartbeats 4000000 in
set_option maxRecDepth 100000 in
theorem qDecode_any (s : ByteArray) (d : List UInt8) (hs : s.data.toList = qenc d) (hlen : s.size ≤ 1099511627776) (w : World) :
    Calls Tryd.prog 25 #[.string s] w (Dec d w) := by
  have HS := Lib.hid hs
  clear hs
  go_enter Tryd.func25, Tryd.ntmps25
  go_wp2_with fail
  obtain ⟨W, hmk, HM, HW, HZ⟩ := make_bytes s.size (by omega) w
  rw [hmk]
  simp only [Result.andThen]
  rw [Oper.upon_value]
  go_wp2_with fail
  clear hmk
  go_loopw [5, 6] (fun n i wr => ∃ k p : Nat, n = .int .i64 k ∧ i = .int .i64 p ∧ p ≤ s.size ∧ Hid (Qd s d k p) ∧ Hid (St w.heap.size d k W wr)) (fun _ i _ => s.size - (intOf i).toNat)
  case atStart => exact ⟨0, 0, rfl, rfl, Nat.zero_le _, Lib.hid ⟨Nat.zero_le _, by simpa using HS.out, Nat.le_refl _, Nat.zero_le _⟩, Lib.hid ⟨Sc.refl _ _ _, by intro i x hx; simp at hx⟩⟩
  case round =>
    obtain ⟨k, p, rfl, rfl, hps, HQ, HT⟩ := hrel
    have hkp := HQ.out.hkp
    by_cases hk : k < d.length
    · have hcd : d.drop k = d[k] :: d.drop (k + 1) := List.drop_eq_getElem_cons hk
      obtain ⟨c, hc⟩ : ∃ c, c = d[k] := ⟨_, rfl⟩
      have HC := Lib.hid hc
      have hd := HQ.out.hd
      rw [hcd, qenc_cons, ← hc] at hd
      have hcb := c.toNat_lt
      clear hc hcd
      by_cases h32 : c.toNat = 32
      · rw [qch_space h32] at hd
        obtain ⟨hp, hx, hr⟩ := drop_cons hd
        have b1 : ((s[p].toNat : Int) == 95) = true := by rw [hx]; rfl
        have HR : Hid (Qd s d (k + 1) (p + 1)) := Lib.hid ⟨hk, hr, by omega, hp⟩
        obtain ⟨z, hz⟩ := Option.isSome_iff_exists.1 ((HM.out.sc HT.out.sc) k (by omega)).1
        have hf := ((HM.out.sc HT.out.sc) k (by omega)).2
        have HN : Hid (St w.heap.size d (k + 1) W (wr.setCell ⟨w.heap.size, k, none⟩ (.int .u8 32))) := Lib.hid (HT.out.step hk _ (by rw [← HC.out, h32]; rfl) HM.out (by omega))
        clear hd hx hr h32
        go_wp2_with fail
        exact ⟨⟨k + 1, p + 1, by go_num, by go_num, by omega, HR, HN⟩, by simp [intOf]; omega⟩
      · by_cases hpl : plainQ c = true
        · rw [qch_plain h32 hpl] at hd
          obtain ⟨hp, hx, hr⟩ := drop_cons hd
          have hq : 33 ≤ c.toNat ∧ c.toNat ≤ 126 ∧ c.toNat ≠ 61 ∧ c.toNat ≠ 95 := by
            unfold plainQ at hpl; simp at hpl; omega
          have b1 : ((s[p].toNat : Int) == 95) = false := by rw [hx, beq_eq_false_iff_ne]; omega
          have b2 : ((s[p].toNat : Int) == 61) = false := by rw [hx, beq_eq_false_iff_ne]; omega
          have b3 : decide ((s[p].toNat : Int) ≤ 126) = true := by rw [hx]; exact decide_eq_true (by omega)
          have b4 : decide (32 ≤ (s[p].toNat : Int)) = true := by rw [hx]; exact decide_eq_true (by omega)
          have HR : Hid (Qd s d (k + 1) (p + 1)) := Lib.hid ⟨hk, hr, by omega, hp⟩
          obtain ⟨z, hz⟩ := Option.isSome_iff_exists.1 ((HM.out.sc HT.out.sc) k (by omega)).1
          have hf := ((HM.out.sc HT.out.sc) k (by omega)).2
          have HN : Hid (St w.heap.size d (k + 1) W (wr.setCell ⟨w.heap.size, k, none⟩ (.int .u8 s[p].toNat))) := Lib.hid (HT.out.step hk _ (by rw [← HC.out, hx]) HM.out (by omega))
          clear hd hx hr h32 hpl hq
          go_wp2_with fail
          exact ⟨⟨k + 1, p + 1, by go_num, by go_num, by omega, HR, HN⟩, by simp [intOf]; omega⟩
        · have hpl' : plainQ c = false := by simpa using hpl
          rw [qch_hex h32 hpl'] at hd
          obtain ⟨hp, hx, hr⟩ := drop_cons hd
          obtain ⟨hp1, hx1, hr1⟩ := drop_cons hr
          obtain ⟨hp2, hx2, hr2⟩ := drop_cons hr1
          have b1 : ((s[p].toNat : Int) == 95) = false := by rw [hx]; rfl
          have b2 : ((s[p].toNat : Int) == 61) = true := by rw [hx]; rfl
          have HR : Hid (Qd s d (k + 1) (p + 2 + 1)) := Lib.hid ⟨hk, hr2, by omega, hp2⟩
          obtain ⟨z, hz⟩ := Option.isSome_iff_exists.1 ((HM.out.sc HT.out.sc) k (by omega)).1
          have hf := ((HM.out.sc HT.out.sc) k (by omega)).2
          have hp1' : p + 1 < s.size := hp1
          have hp2' : p + 2 < s.size := hp2
          have HX : Hid (s[p + 1].toNat = (hexd (c.toNat / 16)).toNat ∧ s[p + 2].toNat = (hexd (c.toNat % 16)).toNat) := Lib.hid ⟨congrArg UInt8.toNat hx1, congrArg UInt8.toNat hx2⟩
          have i1 : ((p : Int) + 1 < (s.size : Int)) := by omega
          have j1 : (0 : Int) ≤ (p : Int) + 1 := by omega
          have j2 : (0 : Int) ≤ (p : Int) + 2 := by omega
          have e1 : IntKind.i64.wrap ((p : Int) + 1) = (p : Int) + 1 := by rw [IntKind.wrap_i64]; omega
          have e2 : IntKind.i64.wrap ((p : Int) + 2) = (p : Int) + 2 := by rw [IntKind.wrap_i64]; omega
          have i2 : ((p : Int) + 2 < (s.size : Int)) := by omega
          have HN : ∀ q, Hid (St w.heap.size d (k + 1) W ((wr.drewN q).setCell ⟨w.heap.size, k, none⟩ (.int .u8 c.toNat))) := fun q => Lib.hid ((HT.out.drewN q).step hk _ (by rw [← HC.out]) HM.out (by omega))
          have HN' := Lib.hid HN
          clear hd hx hr hr1 hr2 h32 hpl hpl' hx1 hx2 HN
          go_wp2_with fail
          go_quiet ((go_at_call 43; exact Calls.quiet_of_same ((readHex_any c.toNat hcb _ _ HX.out.1 HX.out.2 _).mono fun _ _ h => ⟨h.1, h.2.symm⟩)))
          go_wp2_with fail
          exact ⟨⟨k + 1, p + 2 + 1, by go_num, by go_num, by omega, HR, HN'.out _⟩, by simp [intOf]; omega⟩
    · have hke : k = d.length := by have := HQ.out.hk; omega
      subst hke
      have hpe : p = s.size := by
        have h1 := HQ.out.hd
        rw [List.drop_length, qenc_nil, List.drop_eq_nil_iff] at h1
        have h2 : s.data.toList.length = s.size := by simp
        omega
      subst hpe
      go_wp2_with fail
      have HF : Hid (Dec d w (.returned (.tuple #[.slice (some ⟨w.heap.size, 0, none⟩) d.length s.size, .nilIface])) wr) := by
        refine Lib.hid ⟨_, _, rfl, ?_, Nat.le_refl _, below_of_sc HW.out (Nat.le_refl _) HT.out.sc⟩
        intro j x hx
        have := HT.out.out j x (by rw [List.take_length]; exact hx)
        simpa using this
      go_ret2
      exact HF.out

end Go.Proofs.YtedhgkddfgpfhaaDoor.Dq
