/- The walk of Quote. -/
import Derived.Test.YtbklpdcipfhdjaaGreatDoorX
namespace Go.Proofs.YtbklpdcipfhdjaaGreatDoor.Y
open Go.RowKit Go.Proofs.YtbklpdcipfhdjaaGreatDoor.A Go.Proofs.YtbklpdcipfhdjaaGreatDoor.D Go.Proofs.YtbklpdcipfhdjaaGreatDoor.G Go.Proofs.YtbklpdcipfhdjaaGreatDoor.H Go.Proofs.YtbklpdcipfhdjaaGreatDoor.P Go.Proofs.YtbklpdcipfhdjaaGreatDoor.Q Go.Proofs.YtbklpdcipfhdjaaGreatDoor.R Go.Proofs.YtbklpdcipfhdjaaGreatDoor.V Go.Proofs.YtbklpdcipfhdjaaGreatDoor.W Go.Proofs.YtbklpdcipfhdjaaGreatDoor.X

theorem info5 : (Tryz.prog.info? 5).map (fun i => (i.zero, i.size, i.bytes)) = some (some (.int .u8 0), 1, 1) := by kernel_rfl
theorem shape5 {B : Nat} {v' : Value} {n : Nat} {xs : List Value} {w2 : World} (hown' : w2.ownsRowF B 5 1 v' n xs) : ∃ ao n' cap, v' = .slice ao n' cap := by
  rcases hown'.2 with ⟨hv, _⟩ | ⟨g, cap, cur, fz, hv, _⟩
  · exact ⟨_, _, _, hv⟩
  · exact ⟨_, _, _, hv⟩
theorem below_own {B e sz : Nat} {v : Value} {n : Nat} {xs : List Value} {w : World} (h : w.ownsRowF B e sz v n xs) {j : Nat} (hj : v.ownBlock = some j) : B ≤ j := by
  rcases h.2 with ⟨h, _⟩ | ⟨g, cp, cur, fz, h, hg, _⟩
  · rw [h] at hj; simp [Value.ownBlock] at hj
  · rw [h] at hj; simp [Value.ownBlock] at hj; omega
theorem qb_take (s : ByteArray) (k : Nat) (h : k < s.size) : qb ((bl s).take (k + 1)) = qb ((bl s).take k) ++ qb [s[k]] := by
  rw [← qb_append]
  congr 1
  rw [List.take_succ_eq_append_getElem (by rw [← sz]; exact h)]
  rfl
theorem bc_snoc (l : List UInt8) (c : UInt8) : Lib.byteCells (l ++ [c]) = Lib.byteCells l ++ [.int .u8 c.toNat] := by simp [Lib.byteCells]

/-- The bytes of a row that the call has made, as a text. -/
theorem conv_own {w : World} {B : Nat} {v : Value} {n : Nat} {l : List UInt8} (h : w.ownsRowF B 5 1 v n (Lib.byteCells l)) (h0 : 0 < n) : (convert 59 9 v).run Tryz.prog w = .ok (.string (tx l)) w := by
  obtain ⟨hl, h⟩ := h
  rw [Lib.byteCells_length, Nat.mul_one] at hl
  rcases h with ⟨_, h⟩ | ⟨g, cap, cur, fz, rfl, _, hg, _, hc, _, _, ht⟩
  · omega
  · have h1 := run_convert_bytes_back (P := Tryz.prog) w 59 9 5 ⟨g, 0, none⟩ cap l Tryz.underlying59 Tryz.underlying5 Tryz.underlying9 (fun j hj => by
      have hadd : (⟨g, 0, none⟩ : Addr).add j = ⟨g, j, none⟩ := by unfold Addr.add; split <;> simp_all
      rw [hadd, Lib.cell_of_heap hg]
      have : (Lib.byteCells l)[j]? = some (.int .u8 l[j].toNat) := by simp [Lib.byteCells, hj]
      rw [← ht, List.getElem?_take_of_lt (by omega)] at this
      simpa using this)
    rw [hl] at h1
    exact h1

set_option maxHeartbeats 4000000 in
set_option maxRecDepth 100000 in
theorem quote_any (s : ByteArray) (w : World) (hs : s.size ≤ 1099511627776) :
    Calls Tryz.prog 38 #[.string s] w fun e w' => e = .returned (.string (tx (quoteL (bl s)))) ∧ Below w.heap.size w w' := by
  obtain ⟨i0, hi, hz0, hz1, hz2⟩ := info_parts info5
  go_enter Tryz.func38, Tryz.ntmps38
  go_wp2_with fail
  go_loopw [3, 4] (fun v i wr => ∃ k q : Nat, k ≤ s.size ∧ q ≤ 2 * k ∧ i = .int .i64 k ∧ (∃ ao m c, v = .slice ao m c) ∧ Hid (q = (qb ((bl s).take k)).length) ∧ Hid (wr.ownsRowF w.heap.size 5 1 v (q + 1) (Lib.byteCells (34 :: qb ((bl s).take k)))) ∧ Hid (Below w.heap.size w wr)) (fun _ i _ => s.size - (intOf i).toNat)
  case atStart => exact ⟨0, 0, Nat.zero_le _, Nat.zero_le _, rfl, ⟨_, _, _, rfl⟩, Lib.hid rfl, Lib.hid ⟨rfl, .inr ⟨w.heap.size, 1, #[.int .u8 34], (0, 0), rfl, Nat.le_refl _, heap_alloc_new w _, Nat.zero_le _, Nat.le_refl _, by decide, rfl, rfl⟩⟩, Lib.hid ((Below.refl _ w).alloc (Nat.le_refl _) _)⟩
  case round =>
    obtain ⟨k, q, hk, hq, rfl, ⟨ao, m, c, rfl⟩, HQ, HO, HB⟩ := hrel
    have hBW : w.heap.size ≤ wr.heap.size := HB.out.size
    by_cases hlt : k < s.size
    · have bd := s[k].toNat_lt
      have HT := Lib.hid (qb_take s k hlt)
      by_cases h1 : s[k] = 92 ∨ s[k] = 34
      · have b92 : (((s[k].toNat : Int) == 92) || ((s[k].toNat : Int) == 34)) = true := by rcases h1 with e | e <;> rw [e] <;> rfl
        have HQB : Hid (qb ((bl s).take (k + 1)) = qb ((bl s).take k) ++ [92] ++ [s[k]]) := Lib.hid (by rw [HT.out]; simp only [qb]; rw [if_pos h1]; simp)
        rcases h1 with h92 | h34
        · have b1 : ((s[k].toNat : Int) == 92) = true := by rw [h92]; rfl
          clear h92 b92
          have HOLD := HO
          go_wp2_with (at_builtin; refine wpList_append_ownF _ rfl _ _ 59 rfl w.heap.size 5 i0 (.int .u8 0) 1 1 Tryz.underlying59 hi hz0 hz1 hz2 rfl (by decide) _ _ _ rfl (HO.out.alloc _) _ 1 1 [.int .u8 (92 : Nat)] rfl rfl ?c1 ?c2 ?c3 ?c4 ?c5 ?_)
          case c1 =>
            intro j u hj
            match j, hj with
            | 0, hj => simp at hj; subst hj; simp [Addr.add]
          case c2 => intro u hu; simp at hu; subst hu; rfl
          case c3 => unfold maxLen; omega
          case c4 => omega
          case c5 => simp; omega
          intro v1 W1 hown1 hgrow1 _
          have HO : Hid (W1.ownsRowF w.heap.size 5 1 v1 (q + 1 + 1) (Lib.byteCells (34 :: qb ((bl s).take k) ++ [92]))) := Lib.hid (by rw [bc_snoc]; exact hown1)
          have HB : Hid (Below w.heap.size w W1) := Lib.hid ((HB.out.alloc (by omega) _).grown hgrow1 (by simp; omega) (fun j hj => below_own HOLD.out hj))
          have hBW : w.heap.size ≤ W1.heap.size := HB.out.size
          obtain ⟨ao, m, c, rfl⟩ : ∃ ao m c, v1 = .slice ao m c := shape5 HO.out
          clear hown1 hgrow1
          have HOLD := HO
          go_wp2_with (at_builtin; refine wpList_append_ownF _ rfl _ _ 59 rfl w.heap.size 5 i0 (.int .u8 0) 1 1 Tryz.underlying59 hi hz0 hz1 hz2 rfl (by decide) _ _ _ rfl (HO.out.alloc _) _ 1 1 [.int .u8 (s[k].toNat : Nat)] rfl rfl ?c1 ?c2 ?c3 ?c4 ?c5 ?_)
          case c1 =>
            intro j u hj
            match j, hj with
            | 0, hj => simp at hj; subst hj; simp [Addr.add]
          case c2 => intro u hu; simp at hu; subst hu; rfl
          case c3 => unfold maxLen; omega
          case c4 => omega
          case c5 => simp; omega
          intro v1 W1 hown1 hgrow1 _
          have HO : Hid (W1.ownsRowF w.heap.size 5 1 v1 (q + 1 + 1 + 1) (Lib.byteCells (34 :: qb ((bl s).take k) ++ [92] ++ [s[k]]))) := Lib.hid (by rw [bc_snoc]; exact hown1)
          have HB : Hid (Below w.heap.size w W1) := Lib.hid ((HB.out.alloc (by omega) _).grown hgrow1 (by simp; omega) (fun j hj => below_own HOLD.out hj))
          have hBW : w.heap.size ≤ W1.heap.size := HB.out.size
          obtain ⟨ao, m, c, rfl⟩ : ∃ ao m c, v1 = .slice ao m c := shape5 HO.out
          clear hown1 hgrow1
          go_wp2_with fail
          exact ⟨⟨k + 1, q + 2, by omega, by omega, by go_num, ⟨_, _, _, rfl⟩, Lib.hid (by rw [HQB.out, HQ.out]; simp), Lib.hid (by rw [HQB.out]; have := HO.out; simpa using this), HB⟩, by simp [intOf]; omega⟩
        · have b1 : ((s[k].toNat : Int) == 92) = false := by rw [h34]; rfl
          have b2 : ((s[k].toNat : Int) == 34) = true := by rw [h34]; rfl
          clear h34 b92
          have HOLD := HO
          go_wp2_with (at_builtin; refine wpList_append_ownF _ rfl _ _ 59 rfl w.heap.size 5 i0 (.int .u8 0) 1 1 Tryz.underlying59 hi hz0 hz1 hz2 rfl (by decide) _ _ _ rfl (HO.out.alloc _) _ 1 1 [.int .u8 (92 : Nat)] rfl rfl ?c1 ?c2 ?c3 ?c4 ?c5 ?_)
          case c1 =>
            intro j u hj
            match j, hj with
            | 0, hj => simp at hj; subst hj; simp [Addr.add]
          case c2 => intro u hu; simp at hu; subst hu; rfl
          case c3 => unfold maxLen; omega
          case c4 => omega
          case c5 => simp; omega
          intro v1 W1 hown1 hgrow1 _
          have HO : Hid (W1.ownsRowF w.heap.size 5 1 v1 (q + 1 + 1) (Lib.byteCells (34 :: qb ((bl s).take k) ++ [92]))) := Lib.hid (by rw [bc_snoc]; exact hown1)
          have HB : Hid (Below w.heap.size w W1) := Lib.hid ((HB.out.alloc (by omega) _).grown hgrow1 (by simp; omega) (fun j hj => below_own HOLD.out hj))
          have hBW : w.heap.size ≤ W1.heap.size := HB.out.size
          obtain ⟨ao, m, c, rfl⟩ : ∃ ao m c, v1 = .slice ao m c := shape5 HO.out
          clear hown1 hgrow1
          have HOLD := HO
          go_wp2_with (at_builtin; refine wpList_append_ownF _ rfl _ _ 59 rfl w.heap.size 5 i0 (.int .u8 0) 1 1 Tryz.underlying59 hi hz0 hz1 hz2 rfl (by decide) _ _ _ rfl (HO.out.alloc _) _ 1 1 [.int .u8 (s[k].toNat : Nat)] rfl rfl ?c1 ?c2 ?c3 ?c4 ?c5 ?_)
          case c1 =>
            intro j u hj
            match j, hj with
            | 0, hj => simp at hj; subst hj; simp [Addr.add]
          case c2 => intro u hu; simp at hu; subst hu; rfl
          case c3 => unfold maxLen; omega
          case c4 => omega
          case c5 => simp; omega
          intro v1 W1 hown1 hgrow1 _
          have HO : Hid (W1.ownsRowF w.heap.size 5 1 v1 (q + 1 + 1 + 1) (Lib.byteCells (34 :: qb ((bl s).take k) ++ [92] ++ [s[k]]))) := Lib.hid (by rw [bc_snoc]; exact hown1)
          have HB : Hid (Below w.heap.size w W1) := Lib.hid ((HB.out.alloc (by omega) _).grown hgrow1 (by simp; omega) (fun j hj => below_own HOLD.out hj))
          have hBW : w.heap.size ≤ W1.heap.size := HB.out.size
          obtain ⟨ao, m, c, rfl⟩ : ∃ ao m c, v1 = .slice ao m c := shape5 HO.out
          clear hown1 hgrow1
          go_wp2_with fail
          exact ⟨⟨k + 1, q + 2, by omega, by omega, by go_num, ⟨_, _, _, rfl⟩, Lib.hid (by rw [HQB.out, HQ.out]; simp), Lib.hid (by rw [HQB.out]; have := HO.out; simpa using this), HB⟩, by simp [intOf]; omega⟩
      · have b1 : ((s[k].toNat : Int) == 92) = false := by rw [beq_eq_false_iff_ne]; intro e; exact h1 (.inl (UInt8.toNat_inj.1 (by simpa using Int.ofNat.inj e)))
        have b2 : ((s[k].toNat : Int) == 34) = false := by rw [beq_eq_false_iff_ne]; intro e; exact h1 (.inr (UInt8.toNat_inj.1 (by simpa using Int.ofNat.inj e)))
        have HQB : Hid (qb ((bl s).take (k + 1)) = qb ((bl s).take k) ++ [s[k]]) := Lib.hid (by rw [HT.out]; simp only [qb]; rw [if_neg h1])
        clear h1
        have HOLD := HO
        go_wp2_with (at_builtin; refine wpList_append_ownF _ rfl _ _ 59 rfl w.heap.size 5 i0 (.int .u8 0) 1 1 Tryz.underlying59 hi hz0 hz1 hz2 rfl (by decide) _ _ _ rfl (HO.out.alloc _) _ 1 1 [.int .u8 (s[k].toNat : Nat)] rfl rfl ?c1 ?c2 ?c3 ?c4 ?c5 ?_)
        case c1 =>
          intro j u hj
          match j, hj with
          | 0, hj => simp at hj; subst hj; simp [Addr.add]
        case c2 => intro u hu; simp at hu; subst hu; rfl
        case c3 => unfold maxLen; omega
        case c4 => omega
        case c5 => simp; omega
        intro v1 W1 hown1 hgrow1 _
        have HO : Hid (W1.ownsRowF w.heap.size 5 1 v1 (q + 1 + 1) (Lib.byteCells (34 :: qb ((bl s).take k) ++ [s[k]]))) := Lib.hid (by rw [bc_snoc]; exact hown1)
        have HB : Hid (Below w.heap.size w W1) := Lib.hid ((HB.out.alloc (by omega) _).grown hgrow1 (by simp; omega) (fun j hj => below_own HOLD.out hj))
        have hBW : w.heap.size ≤ W1.heap.size := HB.out.size
        obtain ⟨ao, m, c, rfl⟩ : ∃ ao m c, v1 = .slice ao m c := shape5 HO.out
        clear hown1 hgrow1
        go_wp2_with fail
        exact ⟨⟨k + 1, q + 1, by omega, by omega, by go_num, ⟨_, _, _, rfl⟩, Lib.hid (by rw [HQB.out, HQ.out]; simp), Lib.hid (by rw [HQB.out]; have := HO.out; simpa using this), HB⟩, by simp [intOf]; omega⟩
    · obtain rfl : k = s.size := by omega
      have HOLD := HO
      go_wp2_with (at_builtin; refine wpList_append_ownF _ rfl _ _ 59 rfl w.heap.size 5 i0 (.int .u8 0) 1 1 Tryz.underlying59 hi hz0 hz1 hz2 rfl (by decide) _ _ _ rfl (HO.out.alloc _) _ 1 1 [.int .u8 (34 : Nat)] rfl rfl ?c1 ?c2 ?c3 ?c4 ?c5 ?_)
      case c1 =>
        intro j u hj
        match j, hj with
        | 0, hj => simp at hj; subst hj; simp [Addr.add]
      case c2 => intro u hu; simp at hu; subst hu; rfl
      case c3 => unfold maxLen; omega
      case c4 => omega
      case c5 => simp; omega
      intro v1 W1 hown1 hgrow1 _
      have HO : Hid (W1.ownsRowF w.heap.size 5 1 v1 (q + 1 + 1) (Lib.byteCells (34 :: qb ((bl s).take s.size) ++ [34]))) := Lib.hid (by rw [bc_snoc]; exact hown1)
      have HB : Hid (Below w.heap.size w W1) := Lib.hid ((HB.out.alloc (by omega) _).grown hgrow1 (by simp; omega) (fun j hj => below_own HOLD.out hj))
      have hBW : w.heap.size ≤ W1.heap.size := HB.out.size
      obtain ⟨ao, m, c, rfl⟩ : ∃ ao m c, v1 = .slice ao m c := shape5 HO.out
      clear hown1 hgrow1
      have HC := conv_own HO.out (by omega)
      have HE : Hid (34 :: qb ((bl s).take s.size) ++ [34] = quoteL (bl s)) := Lib.hid (by unfold quoteL; rw [List.take_of_length_le (by rw [← sz]; exact Nat.le_refl _)]; rfl)
      go_wp2_with fail
      go_ret
      exact ⟨by rw [← HE.out]; rfl, HB.out⟩

end Go.Proofs.YtbklpdcipfhdjaaGreatDoor.Y
