/- The walk of Escape. -/
import Derived.Test.YtbklpdcipfhdjaaGreatDoorY
import Derived.Test.YtbklpdcipfhdjaaGreatDoorDc
import Derived.Test.YtbklpdcipfhdjaaGreatDoorAp
namespace Go.Proofs.YtbklpdcipfhdjaaGreatDoor.Es
open Go.RowKit Go.Proofs.YtbklpdcipfhdjaaGreatDoor.A Go.Proofs.YtbklpdcipfhdjaaGreatDoor.C Go.Proofs.YtbklpdcipfhdjaaGreatDoor.D Go.Proofs.YtbklpdcipfhdjaaGreatDoor.G Go.Proofs.YtbklpdcipfhdjaaGreatDoor.P Go.Proofs.YtbklpdcipfhdjaaGreatDoor.Q Go.Proofs.YtbklpdcipfhdjaaGreatDoor.Y Go.Proofs.YtbklpdcipfhdjaaGreatDoor.Ec Go.Proofs.YtbklpdcipfhdjaaGreatDoor.Ap

theorem app_bytes {B g c : Nat} {v : Value} {l k : List UInt8} {W : World} (hown : W.ownsRow B 5 1 v l.length (Lib.byteCells l)) (hl : l.length ≤ 4398046511104) (hk : k.length ≤ 3) (hBW : B ≤ W.heap.size) (hg : W.heap[g]? = some (.cells (Lib.byteCells k).toArray 5 (0, 0))) (ty : TypeId) :
    ∃ v' w', (Builtin.append_ #[59, 59] ty #[v, .slice (some ⟨g, 0, none⟩) k.length c]).run Tryz.prog W = .ok v' w' ∧ w'.ownsRow B 5 1 v' (l ++ k).length (Lib.byteCells (l ++ k)) ∧ W.grownBy w' v.ownBlock ∧ ∃ ao m c, v' = .slice ao m c := by
  obtain ⟨i0, hi, hz0, hz1, hz2⟩ := info_parts Y.info5
  obtain ⟨v', w', h1, h2, h3, _⟩ := run_append_own W B 59 ty 5 i0 _ 1 1 Tryz.underlying59 hi hz0 hz1 hz2 rfl (by decide) v l.length (Lib.byteCells l) hown ⟨g, 0, none⟩ k.length c (Lib.byteCells k) (by simp [Lib.byteCells]) (fun j u hj => by
      rw [Addr.add_lit, Lib.cell_of_heap hg, Nat.zero_add]
      simpa using hj) (by intro u hu; obtain ⟨x, _, rfl⟩ := List.mem_map.1 hu; rfl) (by unfold maxLen; omega) (by omega) hBW
  have h2' : w'.ownsRow B 5 1 v' (l ++ k).length (Lib.byteCells (l ++ k)) := by
    rw [List.length_append, Lib.byteCells_append]
    exact h2
  refine ⟨v', w', h1, h2', h3, ?_⟩
  rcases h2'.2 with ⟨h, _⟩ | ⟨g2, c2, _, h, _⟩
  · exact ⟨_, _, _, h⟩
  · exact ⟨_, _, _, h⟩

/-- The bytes of a row that the call has made, as a text; of the empty one, too. -/
theorem conv_any {w : World} {B : Nat} {v : Value} {l : List UInt8} (h : w.ownsRow B 5 1 v l.length (Lib.byteCells l)) : (convert 59 9 v).run Tryz.prog w = .ok (.string (tx l)) w := by
  cases l with
  | nil =>
    rcases h.2 with ⟨rfl, _⟩ | ⟨g, cap, cur, rfl, _⟩
    · kernel_rfl
    · kernel_rfl
  | cons x l => exact conv_own (World.ownsRowF_of h) (by simp)

theorem esc_take (s : ByteArray) (k : Nat) (h : k < s.size) : esc ((bl s).take (k + 1)) = esc ((bl s).take k) ++ esc1 s[k] := by
  rw [List.take_succ_eq_append_getElem (by rw [← sz]; exact h), esc_snoc]
  rfl
theorem esc_le (l : List UInt8) : (esc l).length ≤ 3 * l.length := by
  rw [esc_len]; have := pct_le l; omega

/-- What an append has left. -/
def R8 (w : World) (l : List UInt8) (v' : Value) (w' : World) : Prop := w'.ownsRow w.heap.size 5 1 v' l.length (Lib.byteCells l) ∧ Below w.heap.size w w' ∧ ∃ ao m c, v' = .slice ao m c
theorem run8 {w wr W : World} {v : Value} {l k : List UInt8} (hO : wr.ownsRow w.heap.size 5 1 v l.length (Lib.byteCells l)) (hB : Below w.heap.size w wr) (hl : l.length ≤ 4398046511104) (hk : k.length ≤ 3) (hb : Below wr.heap.size wr W) (hg : W.heap[wr.heap.size]? = some (.cells (Lib.byteCells k).toArray 5 (0, 0))) (ty : TypeId) (n c : Nat) (hn : n = k.length) :
    ∃ v' w', (Builtin.append_ #[59, 59] ty #[v, .slice (some ⟨wr.heap.size, 0, none⟩) n c]).run Tryz.prog W = .ok v' w' ∧ R8 w (l ++ k) v' w' := by
  subst hn
  have hgb : wr.grownBy W none := ⟨hb.os, hb.tape, hb.output, hb.size, fun i hi _ => hb.block i hi⟩
  have hO2 := hO.kept hgb (by
    cases ho : v.ownBlock with
    | none => exact .inl rfl
    | some j => right; simp)
  obtain ⟨v', w', h1, h2, h3, h4⟩ := app_bytes (c := c) hO2 hl hk (Nat.le_trans hB.size hb.size) hg ty
  exact ⟨v', w', h1, h2, (hB.trans (hb.mono hB.size)).grown h3 (Nat.le_trans hB.size hb.size) (fun j hj => (hO2.lt j hj).1), h4⟩

abbrev upper : ByteArray := { data := #[48, 49, 50, 51, 52, 53, 54, 55, 56, 57, 65, 66, 67, 68, 69, 70] }

theorem upper_hx (n : Nat) (h : n < 16) : (upper[n]'h).toNat = (hx n).toNat := by
  have : ∀ n (h : n < 16), (upper[n]'h).toNat = (hx n).toNat := by decide +kernel
  exact this n h
theorem new8 (wr : World) (q r : Nat) : (wr.alloc (.cells #[.int .u8 37, .int .u8 (hx q).toNat, .int .u8 (hx r).toNat] 5)).heap[wr.heap.size]? = some (.cells (Lib.byteCells [37, hx q, hx r]).toArray 5 (0, 0)) := heap_alloc_new wr _

set_option maxHeartbeats 4000000 in
set_option maxRecDepth 100000 in
theorem escape_any (s : ByteArray) (w : World) (hs : s.size ≤ 1099511627776) :
    Calls Tryz.prog 21 #[.string s] w fun e w' => e = .returned (.string (tx (esc (bl s)))) ∧ Below w.heap.size w w' := by
  go_enter Tryz.func21, Tryz.ntmps21
  go_wp2_with fail
  go_loopw [3, 4] (fun v i wr => ∃ k : Nat, k ≤ s.size ∧ i = .int .i64 k ∧ (∃ ao m c, v = .slice ao m c) ∧ Hid (wr.ownsRow w.heap.size 5 1 v (esc ((bl s).take k)).length (Lib.byteCells (esc ((bl s).take k)))) ∧ Hid (Below w.heap.size w wr)) (fun _ i _ => s.size - (intOf i).toNat)
  case atStart => exact ⟨0, Nat.zero_le _, rfl, ⟨_, _, _, rfl⟩, Lib.hid (World.ownsRow_nil _ _ _ _), Lib.hid (Below.refl _ _)⟩
  case round =>
    obtain ⟨k, hk, rfl, ⟨ao, m, c, rfl⟩, HO, HB⟩ := hrel
    have hBW : w.heap.size ≤ wr.heap.size := HB.out.size
    have hel : (esc ((bl s).take k)).length ≤ 3298534883328 := by
      have h1 := esc_le ((bl s).take k)
      rw [List.length_take] at h1
      omega
    by_cases hlt : k < s.size
    · have bd := s[k].toNat_lt
      have HT := Lib.hid (esc_take s k hlt)
      have htk := tokenByte_any s[k].toNat bd wr
      cases hb : tokB s[k].toNat with
      | false =>
        rw [hb] at htk
        have ha : attr s[k] = false := by unfold attr; rw [hb]; rfl
        rw [esc1_no ha] at HT
        clear ha hb
        obtain ⟨q, hq⟩ : ∃ q, q = s[k].toNat / 16 := ⟨_, rfl⟩
        obtain ⟨r, hr⟩ : ∃ r, r = s[k].toNat % 16 := ⟨_, rfl⟩
        have hq16 : q < 16 := by omega
        have hr16 : r < 16 := by omega
        have e1 : IntKind.u8.wrap ((s[k].toNat : Int) / 16) = (q : Int) := by rw [IntKind.wrap_u8]; omega
        have e2 : (s[k].toNat : Int).tmod 16 = (r : Int) := by rw [Int.tmod_eq_emod_of_nonneg (by omega)]; omega
        have i1 : (q : Int) < 16 := by omega
        have i2 : (r : Int) < 16 := by omega
        rw [← hq, ← hr] at HT
        have u1 := upper_hx q hq16
        have u2 := upper_hx r hr16
        clear hq hr
        go_wp2_with fail
        refine htk.mono ?_
        rintro e w1 ⟨rfl, rfl⟩
        go_wp2_with fail
        go_region_held_law (fun _ => True) (trivial) (first
          | (refine step_append (by rfl) (.tmp 33) (.tmp 40) 59 rfl (.slice ao m c) (.slice (some ⟨wr.heap.size, 0, none⟩) 3 3) (by simp [Act.eval]) (by simp [Act.eval]) (run8 (k := [37, hx q, hx r]) HO.out HB.out (by omega) (by simp) (by first | exact ((Below.refl _ wr).alloc (Nat.le_refl _) _).drew | exact ((Below.refl _ wr).drew).alloc (Nat.le_refl _) _) (by first | exact new8 wr q r | exact heap_alloc_new wr _) _ _ _ rfl) ?_; rintro v1 w4 ⟨ho4, hb4, ⟨a4, n4, c4, rfl⟩⟩))
        all_goals
          have HO4 : Hid (w4.ownsRow w.heap.size 5 1 (.slice a4 n4 c4) (esc ((bl s).take (k + 1))).length (Lib.byteCells (esc ((bl s).take (k + 1))))) := Lib.hid (by rw [HT.out]; exact ho4)
          have HB4 : Hid (Below w.heap.size w w4) := Lib.hid hb4
          clear ho4 hb4
          go_wp2_with fail
          exact ⟨⟨k + 1, by omega, by go_num, ⟨_, _, _, rfl⟩, HO4, HB4⟩, by simp [intOf]; omega⟩
      | true =>
        rw [hb] at htk
        by_cases h42 : s[k] = 42
        · have n42 : ((s[k].toNat : Int) != 42) = false := by rw [h42]; rfl
          have ha : attr s[k] = false := by rw [h42]; decide
          rw [esc1_no ha] at HT
          clear ha hb h42
          obtain ⟨q, hq⟩ : ∃ q, q = s[k].toNat / 16 := ⟨_, rfl⟩
          obtain ⟨r, hr⟩ : ∃ r, r = s[k].toNat % 16 := ⟨_, rfl⟩
          have hq16 : q < 16 := by omega
          have hr16 : r < 16 := by omega
          have e1 : IntKind.u8.wrap ((s[k].toNat : Int) / 16) = (q : Int) := by rw [IntKind.wrap_u8]; omega
          have e2 : (s[k].toNat : Int).tmod 16 = (r : Int) := by rw [Int.tmod_eq_emod_of_nonneg (by omega)]; omega
          have i1 : (q : Int) < 16 := by omega
          have i2 : (r : Int) < 16 := by omega
          rw [← hq, ← hr] at HT
          have u1 := upper_hx q hq16
          have u2 := upper_hx r hr16
          clear hq hr
          go_wp2_with fail
          refine htk.mono ?_
          rintro e w1 ⟨rfl, rfl⟩
          go_wp2_with fail
          go_region_held_law (fun _ => True) (trivial) (first
            | (refine step_append (by rfl) (.tmp 33) (.tmp 40) 59 rfl (.slice ao m c) (.slice (some ⟨wr.heap.size, 0, none⟩) 3 3) (by simp [Act.eval]) (by simp [Act.eval]) (run8 (k := [37, hx q, hx r]) HO.out HB.out (by omega) (by simp) (by first | exact ((Below.refl _ wr).alloc (Nat.le_refl _) _).drew | exact ((Below.refl _ wr).drew).alloc (Nat.le_refl _) _) (by first | exact new8 wr q r | exact heap_alloc_new wr _) _ _ _ rfl) ?_; rintro v1 w4 ⟨ho4, hb4, ⟨a4, n4, c4, rfl⟩⟩))
          all_goals
            have HO4 : Hid (w4.ownsRow w.heap.size 5 1 (.slice a4 n4 c4) (esc ((bl s).take (k + 1))).length (Lib.byteCells (esc ((bl s).take (k + 1))))) := Lib.hid (by rw [HT.out]; exact ho4)
            have HB4 : Hid (Below w.heap.size w w4) := Lib.hid hb4
            clear ho4 hb4
            go_wp2_with fail
            exact ⟨⟨k + 1, by omega, by go_num, ⟨_, _, _, rfl⟩, HO4, HB4⟩, by simp [intOf]; omega⟩
        · have n42 : ((s[k].toNat : Int) != 42) = true := by rw [bne_iff_ne]; intro e; exact h42 (UInt8.toNat_inj.1 (by simpa using Int.ofNat.inj e))
          by_cases h39 : s[k] = 39
          · have n39 : ((s[k].toNat : Int) != 39) = false := by rw [h39]; rfl
            have ha : attr s[k] = false := by rw [h39]; decide
            rw [esc1_no ha] at HT
            clear ha hb h39
            obtain ⟨q, hq⟩ : ∃ q, q = s[k].toNat / 16 := ⟨_, rfl⟩
            obtain ⟨r, hr⟩ : ∃ r, r = s[k].toNat % 16 := ⟨_, rfl⟩
            have hq16 : q < 16 := by omega
            have hr16 : r < 16 := by omega
            have e1 : IntKind.u8.wrap ((s[k].toNat : Int) / 16) = (q : Int) := by rw [IntKind.wrap_u8]; omega
            have e2 : (s[k].toNat : Int).tmod 16 = (r : Int) := by rw [Int.tmod_eq_emod_of_nonneg (by omega)]; omega
            have i1 : (q : Int) < 16 := by omega
            have i2 : (r : Int) < 16 := by omega
            rw [← hq, ← hr] at HT
            have u1 := upper_hx q hq16
            have u2 := upper_hx r hr16
            clear hq hr
            go_wp2_with fail
            refine htk.mono ?_
            rintro e w1 ⟨rfl, rfl⟩
            go_wp2_with fail
            go_region_held_law (fun _ => True) (trivial) (first
              | (refine step_append (by rfl) (.tmp 33) (.tmp 40) 59 rfl (.slice ao m c) (.slice (some ⟨wr.heap.size, 0, none⟩) 3 3) (by simp [Act.eval]) (by simp [Act.eval]) (run8 (k := [37, hx q, hx r]) HO.out HB.out (by omega) (by simp) (by first | exact ((Below.refl _ wr).alloc (Nat.le_refl _) _).drew | exact ((Below.refl _ wr).drew).alloc (Nat.le_refl _) _) (by first | exact new8 wr q r | exact heap_alloc_new wr _) _ _ _ rfl) ?_; rintro v1 w4 ⟨ho4, hb4, ⟨a4, n4, c4, rfl⟩⟩))
            all_goals
              have HO4 : Hid (w4.ownsRow w.heap.size 5 1 (.slice a4 n4 c4) (esc ((bl s).take (k + 1))).length (Lib.byteCells (esc ((bl s).take (k + 1))))) := Lib.hid (by rw [HT.out]; exact ho4)
              have HB4 : Hid (Below w.heap.size w w4) := Lib.hid hb4
              clear ho4 hb4
              go_wp2_with fail
              exact ⟨⟨k + 1, by omega, by go_num, ⟨_, _, _, rfl⟩, HO4, HB4⟩, by simp [intOf]; omega⟩
          · have n39 : ((s[k].toNat : Int) != 39) = true := by rw [bne_iff_ne]; intro e; exact h39 (UInt8.toNat_inj.1 (by simpa using Int.ofNat.inj e))
            by_cases h37 : s[k] = 37
            · have n37 : ((s[k].toNat : Int) != 37) = false := by rw [h37]; rfl
              have ha : attr s[k] = false := by rw [h37]; decide
              rw [esc1_no ha] at HT
              clear ha hb h37
              obtain ⟨q, hq⟩ : ∃ q, q = s[k].toNat / 16 := ⟨_, rfl⟩
              obtain ⟨r, hr⟩ : ∃ r, r = s[k].toNat % 16 := ⟨_, rfl⟩
              have hq16 : q < 16 := by omega
              have hr16 : r < 16 := by omega
              have e1 : IntKind.u8.wrap ((s[k].toNat : Int) / 16) = (q : Int) := by rw [IntKind.wrap_u8]; omega
              have e2 : (s[k].toNat : Int).tmod 16 = (r : Int) := by rw [Int.tmod_eq_emod_of_nonneg (by omega)]; omega
              have i1 : (q : Int) < 16 := by omega
              have i2 : (r : Int) < 16 := by omega
              rw [← hq, ← hr] at HT
              have u1 := upper_hx q hq16
              have u2 := upper_hx r hr16
              clear hq hr
              go_wp2_with fail
              refine htk.mono ?_
              rintro e w1 ⟨rfl, rfl⟩
              go_wp2_with fail
              go_region_held_law (fun _ => True) (trivial) (first
                | (refine step_append (by rfl) (.tmp 33) (.tmp 40) 59 rfl (.slice ao m c) (.slice (some ⟨wr.heap.size, 0, none⟩) 3 3) (by simp [Act.eval]) (by simp [Act.eval]) (run8 (k := [37, hx q, hx r]) HO.out HB.out (by omega) (by simp) (by first | exact ((Below.refl _ wr).alloc (Nat.le_refl _) _).drew | exact ((Below.refl _ wr).drew).alloc (Nat.le_refl _) _) (by first | exact new8 wr q r | exact heap_alloc_new wr _) _ _ _ rfl) ?_; rintro v1 w4 ⟨ho4, hb4, ⟨a4, n4, c4, rfl⟩⟩))
              all_goals
                have HO4 : Hid (w4.ownsRow w.heap.size 5 1 (.slice a4 n4 c4) (esc ((bl s).take (k + 1))).length (Lib.byteCells (esc ((bl s).take (k + 1))))) := Lib.hid (by rw [HT.out]; exact ho4)
                have HB4 : Hid (Below w.heap.size w w4) := Lib.hid hb4
                clear ho4 hb4
                go_wp2_with fail
                exact ⟨⟨k + 1, by omega, by go_num, ⟨_, _, _, rfl⟩, HO4, HB4⟩, by simp [intOf]; omega⟩
            · have n37 : ((s[k].toNat : Int) != 37) = true := by rw [bne_iff_ne]; intro e; exact h37 (UInt8.toNat_inj.1 (by simpa using Int.ofNat.inj e))
              have ha : attr s[k] = true := by unfold attr; rw [hb]; simp [h42, h39, h37]
              rw [esc1_yes ha] at HT
              clear ha hb h42 h39 h37
              have HOLD := HO
              obtain ⟨i0, hi, hz0, hz1, hz2⟩ := info_parts Y.info5
              go_wp2_with fail
              refine htk.mono ?_
              rintro e w1 ⟨rfl, rfl⟩
              go_wp2_with (at_builtin; refine wpList_append_own _ rfl _ _ 59 rfl w.heap.size 5 i0 (.int .u8 0) 1 1 Tryz.underlying59 hi hz0 hz1 hz2 rfl (by decide) _ _ _ rfl (HO.out.alloc _) _ 1 1 [.int .u8 (s[k].toNat : Nat)] rfl rfl ?c1 ?c2 ?c3 ?c4 ?c5 ?_)
              case c1 =>
                intro j u hj
                match j, hj with
                | 0, hj => simp at hj; subst hj; simp [Addr.add]
              case c2 => intro u hu; simp at hu; subst hu; rfl
              case c3 => unfold maxLen; omega
              case c4 => omega
              case c5 => simp; omega
              intro v1 W1 hown1 hgrow1 _
              have HO4 : Hid (W1.ownsRow w.heap.size 5 1 v1 (esc ((bl s).take (k + 1))).length (Lib.byteCells (esc ((bl s).take (k + 1))))) := Lib.hid (by rw [HT.out, List.length_append, Lib.byteCells_append]; exact hown1)
              have HB4 : Hid (Below w.heap.size w W1) := Lib.hid ((HB.out.alloc (by omega) _).grown hgrow1 (by simp; omega) (fun j hj => (HOLD.out.lt j hj).1))
              obtain ⟨ao4, m4, c4, rfl⟩ : ∃ ao m c, v1 = .slice ao m c := by
                rcases hown1.2 with ⟨h, _⟩ | ⟨g2, c2, _, h, _⟩
                · exact ⟨_, _, _, h⟩
                · exact ⟨_, _, _, h⟩
              clear hown1 hgrow1
              go_wp2_with fail
              exact ⟨⟨k + 1, by omega, by go_num, ⟨_, _, _, rfl⟩, HO4, HB4⟩, by simp [intOf]; omega⟩
    · obtain rfl : k = s.size := by omega
      have htake : (bl s).take s.size = bl s := List.take_of_length_le (by rw [← sz]; exact Nat.le_refl _)
      have HO2 := HO.out
      rw [htake] at HO2
      have hcv : (convert 59 9 (.slice ao m c)).run Tryz.prog wr = .ok (.string (tx (esc (bl s)))) wr := conv_any HO2
      clear HO2 htake
      go_wp2_with fail
      go_ret
      exact ⟨rfl, HB.out⟩
end Go.Proofs.YtbklpdcipfhdjaaGreatDoor.Es
