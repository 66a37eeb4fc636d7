/- Extended values: which bytes are written as they are, the escaped text, and the walk of percentHexUnescape over it. The walk of decode2231Enc over an extended value in UTF-8. -/
import Derived.Test.YtbklpdcipfhdjaaGreatDoorP
import Derived.Test.YtbklpdcipfhdjaaGreatDoorK
import Derived.Laws.OwnMore
import Derived.Deep.QuietTactic
import Derived.BigQuiet
import Derived.Deep.RegionWith
import Derived.Test.YtbklpdcipfhdjaaGreatDoorS
namespace Go.Proofs.YtbklpdcipfhdjaaGreatDoor.Ec
open Go.RowKit Go.Proofs.YtbklpdcipfhdjaaGreatDoor.A Go.Proofs.YtbklpdcipfhdjaaGreatDoor.C Go.Proofs.YtbklpdcipfhdjaaGreatDoor.D Go.Proofs.YtbklpdcipfhdjaaGreatDoor.G Go.Proofs.YtbklpdcipfhdjaaGreatDoor.P Go.Proofs.YtbklpdcipfhdjaaGreatDoor.K

/-- A byte that is written as it is. -/
def attr (c : UInt8) : Bool := tokB c.toNat && !(c == 42) && !(c == 39) && !(c == 37)
/-- A capital hexadecimal digit. -/
def hx (n : Nat) : UInt8 := if n < 10 then UInt8.ofNat (48 + n) else UInt8.ofNat (55 + n)
def esc1 (c : UInt8) : List UInt8 := if attr c then [c] else [37, hx (c.toNat / 16), hx (c.toNat % 16)]
/-- The escaped text. -/
def esc (l : List UInt8) : List UInt8 := l.flatMap esc1
/-- How many bytes are escaped. -/
def pct (l : List UInt8) : Nat := (l.filter fun c => !attr c).length

theorem esc_cons (c : UInt8) (l : List UInt8) : esc (c :: l) = esc1 c ++ esc l := rfl
theorem esc_append (a b : List UInt8) : esc (a ++ b) = esc a ++ esc b := by simp [esc]
theorem esc_snoc (a : List UInt8) (c : UInt8) : esc (a ++ [c]) = esc a ++ esc1 c := by simp [esc]
theorem esc1_yes {c : UInt8} (h : attr c = true) : esc1 c = [c] := by unfold esc1; rw [if_pos h]
theorem esc1_no {c : UInt8} (h : attr c = false) : esc1 c = [37, hx (c.toNat / 16), hx (c.toNat % 16)] := by unfold esc1; rw [if_neg (by rw [h]; simp)]
theorem pct_snoc (a : List UInt8) (c : UInt8) : pct (a ++ [c]) = pct a + if attr c then 0 else 1 := by
  unfold pct
  rw [List.filter_append, List.length_append, List.filter_cons]
  cases attr c <;> rfl
theorem pct_cons (c : UInt8) (l : List UInt8) : pct (c :: l) = pct l + if attr c then 0 else 1 := by
  unfold pct
  rw [List.filter_cons]
  cases attr c <;> simp
theorem esc_len (l : List UInt8) : (esc l).length = l.length + 2 * pct l := by
  induction l with
  | nil => rfl
  | cons c l ih =>
    rw [esc_cons, pct_cons, List.length_append, ih]
    cases h : attr c with
    | true => rw [esc1_yes h]; simp; omega
    | false => rw [esc1_no h]; simp; omega
theorem pct_le (l : List UInt8) : pct l ≤ l.length := List.length_filter_le _ _
theorem esc_same {l : List UInt8} (h : pct l = 0) : esc l = l := by
  induction l with
  | nil => rfl
  | cons c l ih =>
    rw [pct_cons] at h
    cases hc : attr c with
    | true => rw [esc_cons, esc1_yes hc, ih (by omega)]; rfl
    | false => rw [hc] at h; simp at h
theorem hx_nat (n : Nat) (h : n < 16) : (hx n).toNat = if n < 10 then 48 + n else 55 + n := by
  unfold hx
  split
  · simp; omega
  · simp; omega
theorem tok_hx (n : Nat) (h : n < 16) : tokB (hx n).toNat = true := by
  have : ∀ n, n < 16 → tokB (hx n).toNat = true := by decide +kernel
  exact this n h
theorem tok_esc {l : List UInt8} : ∀ c ∈ esc l, tokB c.toNat = true := by
  intro c hc
  obtain ⟨d, _, h⟩ := List.mem_flatMap.1 hc
  have hd := d.toNat_lt
  cases ha : attr d with
  | true =>
    rw [esc1_yes ha] at h
    simp at h
    subst h
    unfold attr at ha
    simp at ha
    exact ha.1.1.1
  | false =>
    rw [esc1_no ha] at h
    simp at h
    rcases h with rfl | rfl | rfl
    · decide
    · exact tok_hx _ (by omega)
    · exact tok_hx _ (by omega)
theorem attr37 {c : UInt8} (h : attr c = true) : c.toNat ≠ 37 := by
  intro e
  have : c = 37 := UInt8.toNat_inj.1 (by simpa using e)
  subst this
  revert h; decide

theorem info5 : (Tryz.prog.info? 5).map (fun i => (i.zero, i.size, i.bytes)) = some (some (.int .u8 0), 1, 1) := by kernel_rfl
/-- What has been decoded stands in a row of n cells that can be written. -/
structure Dk (B g : Nat) (d : List UInt8) (n k : Nat) (w wr : World) : Prop where
  done_ : ∀ j x, (d.take k)[j]? = some x → wr.cell? ⟨g, j, none⟩ = some (.int .u8 x.toNat)
  some_ : ∀ j, j < n → (wr.cell? ⟨g, j, none⟩).isSome = true
  nofz : ∀ j, j < n → wr.frozen? ⟨g, j, none⟩ = false
  below : Below B w wr
theorem Dk.drewN {B g n k : Nat} {d : List UInt8} {w wr : World} (h : Dk B g d n k w wr) (q : Nat) : Dk B g d n k w (wr.drewN q) :=
  ⟨h.done_, h.some_, h.nofz, h.below.trans ⟨rfl, rfl, rfl, Nat.le_refl _, fun _ _ => rfl⟩⟩
theorem Dk.set {B g n k : Nat} {d : List UInt8} {w wr : World} (h : Dk B g d n k w wr) (hk : k < d.length) (hkn : k < n) (hB : B ≤ g) (v : Value) (hv : v = .int .u8 (d[k]).toNat) : Dk B g d n (k + 1) w (wr.setCell ⟨g, k, none⟩ v) := by
  subst hv
  refine ⟨fun j x hx => ?_, fun j hj => ?_, fun j hj => by rw [frozen_set]; exact h.nofz j hj, h.below.trans ⟨rfl, rfl, rfl, by simp [World.setCell], fun i hi => Below.heap_setCell _ _ _ _ (by show i ≠ g; omega)⟩⟩
  · rw [List.take_succ_eq_append_getElem hk] at hx
    rw [cell_set]
    by_cases hjk : k = j
    · subst hjk
      rw [List.getElem?_append_right (by rw [List.length_take]; omega)] at hx
      simp [Nat.min_eq_left (Nat.le_of_lt hk)] at hx
      subst hx
      rw [if_pos rfl]
      obtain ⟨z, hz⟩ := Option.isSome_iff_exists.1 (h.some_ k hkn)
      rw [hz]; rfl
    · rw [if_neg hjk]
      refine h.done_ j x ?_
      have hlt : j < (d.take k ++ [d[k]]).length := (List.getElem?_eq_some_iff.1 hx).1
      rw [List.length_append, List.length_singleton, List.length_take] at hlt
      rw [List.getElem?_append_left (by rw [List.length_take]; omega)] at hx
      exact hx
  · rw [cell_set]
    split
    · rw [Option.isSome_map]; exact h.some_ j hj
    · exact h.some_ j hj
theorem make_bytes (d : List UInt8) (n : Nat) (hn : n ≤ 2199023255552) (w : World) : ∃ W, (Instr.makeSlice 59 (.int .i64 n) (.int .i64 n)).run Tryz.prog w = .ok (.slice (some ⟨w.heap.size, 0, none⟩) n n) W ∧ Hid (Dk w.heap.size w.heap.size d n 0 w W) := by
  obtain ⟨i0, hi, hz0, hz1, hz2⟩ := info_parts info5
  have h := run_make (P := Tryz.prog) (w := w) 59 5 i0 _ Tryz.underlying59 hi hz0 .i64 .i64 (n : Int) (n : Int) (by omega) (Int.le_refl _) (by rw [hz2]; omega) (by omega)
  have hh := heap_alloc_new w (.cells (madeCells (Value.int .u8 0).cells ((n : Int).toNat * i0.size)) 5)
  refine ⟨_, h, Lib.hid ⟨fun j x hx => by simp at hx, fun j hj => ?_, fun j _ => Lib.frozen_of_heap hh j, (Below.refl _ w).alloc (Nat.le_refl _) _⟩⟩
  rw [Lib.cell_of_heap hh, Array.getElem?_eq_getElem (by rw [size_madeCells, hz1]; omega)]
  rfl

theorem drop_cons {s : ByteArray} {i : Nat} {x : UInt8} {r : List UInt8} (h : (bl s).drop i = x :: r) : ∃ h : i < s.size, s[i] = x ∧ (bl s).drop (i + 1) = r := by
  have hl : i < (bl s).length := by
    rcases Nat.lt_or_ge i (bl s).length with h1 | h1
    · exact h1
    · rw [List.drop_eq_nil_of_le h1] at h; cases h
  rw [List.drop_eq_getElem_cons hl] at h
  injection h with h1 h2
  exact ⟨by rw [sz]; exact hl, h1, h2⟩

/-- So far k bytes of d have been read, and p of the text; c of them are escaped. -/
structure Pk (s : ByteArray) (d : List UInt8) (k p c : Nat) : Prop where
  hk : k ≤ d.length
  hd : (bl s).drop p = esc (d.drop k)
  hc : c = pct (d.take k)
  hp : p ≤ s.size
theorem Pk.start {s : ByteArray} {d : List UInt8} (h : bl s = esc d) : Pk s d 0 0 0 := ⟨Nat.zero_le _, by simpa using h, rfl, Nat.zero_le _⟩
theorem Pk.one {s : ByteArray} {d : List UInt8} {k p c : Nat} (h : Pk s d k p c) (hk : k < d.length) (ha : attr d[k] = true) : ∃ hp : p < s.size, s[p] = d[k] ∧ Pk s d (k + 1) (p + 1) c := by
  have hd := h.hd
  rw [List.drop_eq_getElem_cons hk, esc_cons, esc1_yes ha] at hd
  obtain ⟨hp, hx, hr⟩ := drop_cons hd
  refine ⟨hp, hx, ⟨hk, hr, ?_, hp⟩⟩
  rw [List.take_succ_eq_append_getElem hk, pct_snoc, ha, ← h.hc]; rfl
theorem Pk.three {s : ByteArray} {d : List UInt8} {k p c : Nat} (h : Pk s d k p c) (hk : k < d.length) (ha : attr d[k] = false) :
    ∃ hp : p + 2 < s.size, s[p] = 37 ∧ s[p + 1] = hx (d[k].toNat / 16) ∧ s[p + 2] = hx (d[k].toNat % 16) ∧ Pk s d (k + 1) (p + 3) (c + 1) := by
  have hd := h.hd
  rw [List.drop_eq_getElem_cons hk, esc_cons, esc1_no ha] at hd
  obtain ⟨hp, hx, hr⟩ := drop_cons hd
  obtain ⟨hp1, hx1, hr1⟩ := drop_cons hr
  obtain ⟨hp2, hx2, hr2⟩ := drop_cons hr1
  refine ⟨hp2, hx, hx1, hx2, ⟨hk, hr2, ?_, hp2⟩⟩
  rw [List.take_succ_eq_append_getElem hk, pct_snoc, ha, ← h.hc]; rfl
theorem Pk.done_ {s : ByteArray} {d : List UInt8} {p c : Nat} (h : Pk s d d.length p c) : p = s.size ∧ c = pct d := by
  have h1 := h.hd
  rw [List.drop_length] at h1
  have h2 : s.size ≤ p := by
    have : (bl s).drop p = [] := h1
    rw [List.drop_eq_nil_iff, ← sz] at this
    exact this
  have h3 := h.hc
  rw [List.take_length] at h3
  exact ⟨by have := h.hp; omega, h3⟩

theorem wraps8 (n : Int) (h0 : 0 ≤ n) (h1 : n < 2 ^ 8) : IntKind.u8.wrap n = n := by rw [IntKind.wrap_u8]; omega
theorem or_join (c : Nat) (hc : c < 256) : bits .or .u8 ((c : Int) / 16 * 16) ((c : Int) % 16) = (c : Int) := by
  rw [bits_join .u8 8 (by decide) wraps8 4 _ _ (by omega) (by omega) (by omega) (by omega) (by omega) (by omega)]
  omega

/-- The value of a capital hexadecimal digit. -/
def hexv (v : Nat) : Nat := if v < 65 then v - 48 else v - 55
theorem hexv_hx (n : Nat) (h : n < 16) : hexv (hx n).toNat = n := by
  rw [hx_nat n h]; unfold hexv; split <;> split <;> omega
theorem unhex_v (v : Nat) (h : ∃ n, n < 16 ∧ v = (hx n).toNat) (w : World) : Calls Tryz.prog 85 #[.int .u8 v] w fun r w' => r = .returned (.int .u8 (hexv v)) ∧ w = w' := by
  obtain ⟨n, hn, rfl⟩ := h
  rw [hexv_hx n hn]
  exact unhex_any n _ hn (hx_nat n hn) w

set_option maxHeartbeats 4000000 in
set_option maxRecDepth 100000 in
theorem percent_any (s : ByteArray) (d : List UInt8) (hs : bl s = esc d) (hlen : s.size ≤ 1099511627776) (w : World) :
    Calls Tryz.prog 58 #[.string s] w fun e w' => e = .returned (.tuple #[.string (tx d), .bool true]) ∧ Below w.heap.size w w' := by
  have HS := Lib.hid hs
  have hlen2 : s.size = d.length + 2 * pct d := by rw [sz, hs, esc_len]
  have HL := Lib.hid hlen2
  have hpl : pct d ≤ 1099511627776 := by omega
  have hdl : d.length ≤ 1099511627776 := by omega
  clear hs hlen2
  go_enter Tryz.func58, Tryz.ntmps58
  go_wp2_with fail
  go_loopw [4, 5] (fun n i wr => ∃ k p c : Nat, n = .int .i64 c ∧ i = .int .i64 p ∧ p ≤ s.size ∧ Hid (Pk s d k p c) ∧ Hid (Below w.heap.size w wr)) (fun _ i _ => s.size - (intOf i).toNat)
  case atStart => exact ⟨0, 0, 0, rfl, rfl, Nat.zero_le _, Lib.hid (Pk.start HS.out), Lib.hid (Below.refl _ _)⟩
  case round =>
    obtain ⟨k, p, c, rfl, rfl, hps, HQ, HB⟩ := hrel
    by_cases hk : k < d.length
    · have hcb := d[k].toNat_lt
      cases ha : attr d[k] with
      | true =>
        obtain ⟨hp, hx, hQ⟩ := HQ.out.one hk ha
        have b1 : ((s[p].toNat : Int) != 37) = true := by rw [hx, bne_iff_ne]; have := attr37 ha; omega
        have HR := Lib.hid hQ
        clear hx hQ ha
        go_wp2_with fail
        exact ⟨⟨k + 1, p + 1, c, by go_num, by go_num, by omega, HR, HB⟩, by simp [intOf]; omega⟩
      | false =>
        obtain ⟨hp2, hx, hx1, hx2, hQ⟩ := HQ.out.three hk ha
        have hp : p < s.size := by omega
        have hp1 : p + 1 < s.size := by omega
        have b1 : ((s[p].toNat : Int) != 37) = false := by rw [hx]; rfl
        have h1 := ishex_any (d[k].toNat / 16) s[p + 1].toNat (by omega) (by rw [hx1, hx_nat _ (by omega)]) wr
        have h2 := ishex_any (d[k].toNat % 16) s[p + 2].toNat (by omega) (by rw [hx2, hx_nat _ (by omega)]) wr
        have HR := Lib.hid hQ
        have hcs : c ≤ 1099511627776 := by
          have := HQ.out.hc
          have h3 : pct (d.take k) ≤ (d.take k).length := pct_le _
          rw [List.length_take] at h3
          omega
        have e1 : IntKind.i64.wrap ((p : Int) + 1) = (p : Int) + 1 := by rw [IntKind.wrap_i64]; omega
        have e2 : IntKind.i64.wrap ((p : Int) + 2) = (p : Int) + 2 := by rw [IntKind.wrap_i64]; omega
        have j1 : (0 : Int) ≤ (p : Int) + 1 := by omega
        have j2 : (0 : Int) ≤ (p : Int) + 2 := by omega
        clear hx hx1 hx2 hQ ha
        go_wp2_with fail
        refine h1.mono ?_
        rintro r w1 ⟨rfl, rfl⟩
        go_wp2_with fail
        refine h2.mono ?_
        rintro r w1 ⟨rfl, rfl⟩
        go_wp2_with fail
        exact ⟨⟨k + 1, p + 3, c + 1, by go_num, by go_num, by omega, HR, HB⟩, by simp [intOf]; omega⟩
    · have hke : k = d.length := by have := HQ.out.hk; omega
      subst hke
      obtain ⟨rfl, rfl⟩ := HQ.out.done_
      cases hz : decide (pct d = 0) with
      | true =>
        have hz0 := of_decide_eq_true hz
        have b1 : (((pct d : Nat) : Int) == 0) = true := by rw [hz0]; rfl
        have HE : Hid (s = tx d) := Lib.hid (eq_of_bl (by rw [HS.out, esc_same hz0]; rfl))
        clear hz hz0
        go_wp2_with fail
        go_ret2
        exact ⟨by rw [← HE.out]; rfl, HB.out⟩
      | false =>
        have hz0 := of_decide_eq_false hz
        have b1 : (((pct d : Nat) : Int) == 0) = false := by rw [beq_eq_false_iff_ne]; omega
        have e0 : IntKind.i64.wrap (2 * ((pct d : Nat) : Int)) = 2 * ((pct d : Nat) : Int) := by rw [IntKind.wrap_i64]; omega
        have e3 : IntKind.i64.wrap ((s.size : Int) - 2 * ((pct d : Nat) : Int)) = (d.length : Int) := by rw [IntKind.wrap_i64]; have := HL.out; omega
        obtain ⟨W, hmk, HM⟩ := make_bytes d d.length (by omega) wr
        clear hz hz0
        go_wp2_with fail
        have HBr := HB
        have hge : w.heap.size ≤ wr.heap.size := HB.out.size
        have HGE := Lib.hid hge
        clear hmk hge
        generalize wr.heap.size = g at *
        obtain ⟨wA, rfl⟩ : ∃ wA, wA = wr := ⟨_, rfl⟩
        go_loopw [7, 8] (fun j i wr => ∃ k p c : Nat, j = .int .i64 k ∧ i = .int .i64 p ∧ p ≤ s.size ∧ k ≤ p ∧ Hid (Pk s d k p c) ∧ Hid (Dk g g d d.length k wA wr)) (fun _ i _ => s.size - (intOf i).toNat)
        case atStart => exact ⟨0, 0, 0, rfl, rfl, Nat.zero_le _, Nat.le_refl _, Lib.hid (Pk.start HS.out), HM⟩
        case round =>
          obtain ⟨k, p, c, rfl, rfl, hps, hkp, HQ, HD⟩ := hrel
          by_cases hk : k < d.length
          · have hcb := d[k].toNat_lt
            obtain ⟨z, hz⟩ := Option.isSome_iff_exists.1 (HD.out.some_ k hk)
            have hf := HD.out.nofz k hk
            cases ha : attr d[k] with
            | true =>
              obtain ⟨hp, hx, hQ⟩ := HQ.out.one hk ha
              have b1 : ((s[p].toNat : Int) == 37) = false := by rw [hx, beq_eq_false_iff_ne]; have := attr37 ha; omega
              have HR := Lib.hid hQ
              have HN : Hid (Dk g g d d.length (k + 1) wA (wr.setCell ⟨g, k, none⟩ (.int .u8 s[p].toNat))) := Lib.hid (HD.out.set hk hk (Nat.le_refl _) _ (by rw [hx]))
              clear hx hQ ha
              go_wp2_with fail
              exact ⟨⟨k + 1, p + 1, c, by go_num, by go_num, by omega, by omega, HR, HN⟩, by simp [intOf]; omega⟩
            | false =>
              obtain ⟨hp2, hx0, hx1, hx2, hQ⟩ := HQ.out.three hk ha
              have hp : p < s.size := by omega
              have hp1 : p + 1 < s.size := by omega
              have b1 : ((s[p].toNat : Int) == 37) = true := by rw [hx0]; rfl
              have h1 : ∃ n, n < 16 ∧ s[p + 1].toNat = (hx n).toNat := ⟨d[k].toNat / 16, by omega, by rw [hx1]⟩
              have h2 : ∃ n, n < 16 ∧ s[p + 2].toNat = (hx n).toNat := ⟨d[k].toNat % 16, by omega, by rw [hx2]⟩
              have H1 := Lib.hid h1
              have H2 := Lib.hid h2
              have v1 : hexv s[p + 1].toNat = d[k].toNat / 16 := by rw [hx1, hexv_hx _ (by omega)]
              have v2 : hexv s[p + 2].toNat = d[k].toNat % 16 := by rw [hx2, hexv_hx _ (by omega)]
              have HR := Lib.hid hQ
              have hor := or_join d[k].toNat hcb
              have e1 : IntKind.i64.wrap ((p : Int) + 1) = (p : Int) + 1 := by rw [IntKind.wrap_i64]; omega
              have e2 : IntKind.i64.wrap ((p : Int) + 2) = (p : Int) + 2 := by rw [IntKind.wrap_i64]; omega
              have j1 : (0 : Int) ≤ (p : Int) + 1 := by omega
              have j2 : (0 : Int) ≤ (p : Int) + 2 := by omega
              have HN : Hid (∀ q, Dk g g d d.length (k + 1) wA ((wr.drewN q).setCell ⟨g, k, none⟩ (.int .u8 d[k].toNat))) := Lib.hid fun q => (HD.out.drewN q).set hk hk (Nat.le_refl _) _ rfl
              clear hx0 hx1 hx2 hQ ha h1 h2
              go_wp2_with fail
              go_region_with (go_at_call 85; refine (unhex_v _ (by first | exact H1.out | exact H2.out) _).mono ?_; rintro e1 w8 ⟨rfl, rfl⟩)
              all_goals go_wp2_with fail
              all_goals exact ⟨⟨k + 1, p + 3, c + 1, by go_num, by go_num, by omega, by omega, HR, Lib.hid (HN.out _)⟩, by simp [intOf]; omega⟩
          · have hke : k = d.length := by have := HQ.out.hk; omega
            subst hke
            obtain ⟨rfl, rfl⟩ := HQ.out.done_
            have hcv : (convert 59 9 (.slice (some ⟨g, 0, none⟩) d.length d.length)).run Tryz.prog wr = .ok (.string (tx d)) wr :=
              run_convert_bytes_back (P := Tryz.prog) wr 59 9 5 ⟨g, 0, none⟩ d.length d Tryz.underlying59 Tryz.underlying5 Tryz.underlying9 (fun j hj => by
                have hadd : (⟨g, 0, none⟩ : Addr).add j = ⟨g, j, none⟩ := by unfold Addr.add; split <;> simp_all
                rw [hadd, HD.out.done_ j d[j] (by rw [List.take_length, List.getElem?_eq_getElem hj])])
            have HB2 : Hid (Below w.heap.size w wr) := Lib.hid (HB.out.trans (HD.out.below.mono HGE.out))
            go_wp2_with fail
            go_ret2
            exact ⟨rfl, HB2.out⟩
end Go.Proofs.YtbklpdcipfhdjaaGreatDoor.Ec

namespace Go.Proofs.YtbklpdcipfhdjaaGreatDoor.Dc
open Go.RowKit Go.Proofs.YtbklpdcipfhdjaaGreatDoor.A Go.Proofs.YtbklpdcipfhdjaaGreatDoor.D Go.Proofs.YtbklpdcipfhdjaaGreatDoor.G Go.Proofs.YtbklpdcipfhdjaaGreatDoor.P Go.Proofs.YtbklpdcipfhdjaaGreatDoor.Q Go.Proofs.YtbklpdcipfhdjaaGreatDoor.S Go.Proofs.YtbklpdcipfhdjaaGreatDoor.Ec

abbrev utf8 : List UInt8 := [117, 116, 102, 45, 56]
theorem low_ascii {l : List UInt8} (h : l.map low = utf8) : ∀ c ∈ l, c.toNat < 128 := by
  intro c hc
  have h1 : low c ∈ utf8 := h ▸ List.mem_map.2 ⟨c, hc, rfl⟩
  have : ∀ n, n < 256 → low (UInt8.ofNat n) ∈ utf8 → (UInt8.ofNat n).toNat < 128 := by decide +kernel
  have h2 := this c.toNat c.toNat_lt
  simp at h2
  exact h2 (by simpa using h1)

set_option maxHeartbeats 1000000 in
set_option maxRecDepth 100000 in
theorem dec_walk (s c1 r1 lg r2 lw d : ByteArray) (h1 : Gives 47 #[.string s, .string ⟨#[39]⟩] (.tuple #[.string c1, .string r1, .bool true])) (h2 : Gives 47 #[.string r1, .string ⟨#[39]⟩] (.tuple #[.string lg, .string r2, .bool true]))
    (h3 : Gives 49 #[.string c1] (.string lw)) (hn : (lw.toList == [117, 115, 45, 97, 115, 99, 105, 105]) = false) (hy : (lw.toList == [117, 116, 102, 45, 56]) = true) (h4 : Gives 58 #[.string r2] (.tuple #[.string d, .bool true])) :
    Gives 54 #[.string s] (.tuple #[.string d, .bool true]) := by
  intro w
  go_enter Tryz.func54, Tryz.ntmps54
  go_wp2_with fail
  refine (h1 w).mono ?_
  rintro e w1 ⟨rfl, g1⟩
  go_wp2_with fail
  refine (h2 w1).mono ?_
  rintro e w2 ⟨rfl, g2⟩
  go_wp2_with fail
  refine (h3 w2).mono ?_
  rintro e w3 ⟨rfl, g3⟩
  go_wp2_with fail
  refine (h4 w3).mono ?_
  rintro e w4 ⟨rfl, g4⟩
  have G : Hid (Below w.heap.size w w4) := Lib.hid (chain (chain (chain g1 g2) g3) g4)
  clear g1 g2 g3 g4
  go_wp2_with fail
  go_ret2
  exact ⟨rfl, G.out⟩

theorem dec_any (s : ByteArray) (cs lang d : List UInt8) (hs : s.size ≤ 1099511627776) (hl : bl s = cs ++ 39 :: (lang ++ 39 :: esc d)) (h1 : (39 : UInt8) ∉ cs) (h2 : (39 : UInt8) ∉ lang) (hc : cs.map low = utf8) :
    Gives 54 #[.string s] (.tuple #[.string (tx d), .bool true]) := by
  have hsz : cs.length + lang.length + (esc d).length + 2 = s.size := by rw [sz, hl]; simp; omega
  have hlw : (lower (tx cs)).toList = utf8 := by rw [Lib.toList_data]; exact hc
  refine dec_walk s (tx cs) (tx (lang ++ 39 :: esc d)) (tx lang) (tx (esc d)) (lower (tx cs)) (tx d) (g_cutAt s 39 cs _ hs hl h1) (g_cutAt _ 39 lang _ (by rw [size_tx]; simp; omega) (bl_tx _) h2)
    (g_lower _ (by rw [size_tx]; omega) (by rw [bl_tx]; exact low_ascii hc)) (by rw [hlw]; rfl) (by rw [hlw]; rfl) (fun W => percent_any _ d (bl_tx _) (by rw [size_tx]; omega) W)

end Go.Proofs.YtbklpdcipfhdjaaGreatDoor.Dc
