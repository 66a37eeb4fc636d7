/- The walk of base64's Encode, into a stretch of 1024 cells. -/
import Derived.Test.YtedhgkddfgpfhaaDoorN
import Derived.Deep.CutBlock
import Derived.Deep.DeepCutAuto
import Derived.Maps.RangeWalk
namespace Go.Proofs.YtedhgkddfgpfhaaDoor.En
open Go.RowKit Go.Proofs.YtedhgkddfgpfhaaDoor.B64 Go.Proofs.YtedhgkddfgpfhaaDoor.N

/-- Only cells of block d, from the offset lo on, have been written. -/
structure Sc (d lo : Nat) (w w' : World) : Prop where
  os : w'.os = w.os
  tape : w'.tape = w.tape
  output : w'.output = w.output
  size : w'.heap.size = w.heap.size
  block : ∀ k, k ≠ d → w'.heap[k]? = w.heap[k]?
  cell : ∀ o, o < lo → w'.cell? ⟨d, o, none⟩ = w.cell? ⟨d, o, none⟩
  some_ : ∀ o, (w.cell? ⟨d, o, none⟩).isSome = true → (w'.cell? ⟨d, o, none⟩).isSome = true
  frozen : ∀ o, w'.frozen? ⟨d, o, none⟩ = w.frozen? ⟨d, o, none⟩
  shape : w'.shape? d = w.shape? d

theorem Sc.refl (d lo : Nat) (w : World) : Sc d lo w w := ⟨rfl, rfl, rfl, rfl, fun _ _ => rfl, fun _ _ => rfl, fun _ h => h, fun _ => rfl, rfl⟩
theorem Sc.trans {d lo : Nat} {a b c : World} (h : Sc d lo a b) (k : Sc d lo b c) : Sc d lo a c :=
  ⟨k.os.trans h.os, k.tape.trans h.tape, k.output.trans h.output, k.size.trans h.size, fun i hi => (k.block i hi).trans (h.block i hi), fun o ho => (k.cell o ho).trans (h.cell o ho), fun o ho => k.some_ o (h.some_ o ho), fun o => (k.frozen o).trans (h.frozen o), k.shape.trans h.shape⟩
theorem cell_set (w : World) (d o p : Nat) (v : Value) : (w.setCell ⟨d, o, none⟩ v).cell? ⟨d, p, none⟩ = if o = p then (w.cell? ⟨d, p, none⟩).map (fun _ => v) else w.cell? ⟨d, p, none⟩ := by
  simp only [World.setCell, World.cell?, Array.getElem?_modify]
  by_cases h : o = p
  · subst h
    cases hd : w.heap[d]? with
    | none => simp
    | some x =>
      cases x <;> simp
      rename_i c e f
      rw [Array.getElem?_setIfInBounds]
      by_cases hlt : o < c.size
      · simp [hlt]
      · simp [hlt]
  · rw [if_neg h]
    cases hd : w.heap[d]? with
    | none => simp
    | some x =>
      cases x <;> simp [h]
theorem Sc.set (d lo o : Nat) (w : World) (v : Value) (h : lo ≤ o) : Sc d lo w (w.setCell ⟨d, o, none⟩ v) := by
  refine ⟨rfl, rfl, rfl, by simp [World.setCell], fun k hk => Below.heap_setCell _ _ _ _ hk, fun p hp => ?_, fun p hp => ?_, fun p => ?_, ?_⟩
  · rw [cell_set, if_neg (by omega)]
  · rw [cell_set]; split
    · simpa using hp
    · exact hp
  · simp only [World.setCell, World.frozen?, Array.getElem?_modify]
    cases hd : w.heap[d]? with
    | none => simp
    | some x => cases x <;> simp
  · simp only [World.setCell, World.shape?, Array.getElem?_modify]
    cases hd : w.heap[d]? with
    | none => simp
    | some x => cases x <;> simp
theorem Sc.drewN {d lo : Nat} {a b : World} (h : Sc d lo a b) (n : Nat) : Sc d lo a (b.drewN n) := h.trans ⟨rfl, rfl, rfl, rfl, fun _ _ => rfl, fun _ _ => rfl, fun _ h => h, fun _ => rfl, rfl⟩

/-- A whole array that is loaded out of a row, from wherever it lies. -/
theorem wpList_load_cells {P : Program} {ops : Array Oper} {rest : List Oper} {o : Oper} {a : Act} {w : World} {Q : Exit → Act → World → Prop} (hgd : o.guard = none) (ty : TypeId) (x : Operand) (ho : o.op = .load ty x)
    (ad : Addr) (hx : a.eval x = .pointer (some ad)) (vs : List Value) (hc : ∀ j v, vs[j]? = some v → w.cell? (ad.add j) = some v) (d : TypeDesc)
    (hu : P.underlying ty = some d) (hd : (match d with | .struct _ | .array _ _ => true | _ => false) = true) (hi : (P.info? ty).map (·.size) = some vs.length)
    (h : wpList P ops Q rest (a.put o.dst (.agg vs.toArray)) w) : wpList P ops Q (o :: rest) a w := by
  refine wpList_plain hgd fun _ hK => ?_
  have hl : (loadCells ad vs.length).run P w = .ok vs.toArray w := run_loadCells_list (P := P) w ad vs hc
  have hv : (loadVar ty ad).run P w = .ok (.agg vs.toArray) w := by
    cases hq : P.info? ty with
    | none => simp [hq] at hi
    | some i =>
      have hs : i.size = vs.length := by simpa [hq] using hi
      have hagg : (isAgg ty).run P w = .ok true w := by
        unfold isAgg
        rw [Sem.run_bind, run_underlying hu w]
        cases d <;> simp_all
      simp [loadVar, Sem.run_bind, hagg, sizeOf, typeInfo, hq, hs, hl]
  unfold Oper.wp execOp
  simp only [ho, hx, Instr.loadAt, Instr.sureAddr, Sem.run_bind, Sem.run_pure, Result.andThen_ok, hv]
  exact hK _ _ h

def encHead : List Value := (ENC 64).take 64
theorem encHead_len : encHead.length = 64 := by unfold encHead; rw [List.length_take, ENC_len]; rfl
theorem encHead_cells {g : Nat} {w : World} (h : IsEnc g 64 w) : ∀ j v, encHead[j]? = some v → w.cell? ((⟨g, 0, none⟩ : Addr).add j) = some v := by
  intro j v hv
  have hadd : (⟨g, 0, none⟩ : Addr).add j = ⟨g, j, none⟩ := by unfold Addr.add; split <;> simp_all
  rw [hadd]
  refine h.cell j v ?_
  unfold encHead at hv
  rw [List.getElem?_take] at hv
  split at hv
  · exact hv
  · cases hv
theorem info101 : (Tryd.prog.info? 101).map (·.size) = some 64 := by kernel_rfl

/-- Where the source's bytes lie, whatever is written into the stretch. -/
def Src (d lo : Nat) (w : World) (sb so : Nat) (xs : List UInt8) : Prop :=
  ∀ w', Sc d lo w w' → ∀ j x, xs[j]? = some x → w'.cell? ⟨sb, so + j, none⟩ = some (.int .u8 x.toNat)

/-- The bytes l lie in block d from lo on. -/
def Out (d lo : Nat) (l : List UInt8) (w : World) : Prop := ∀ i x, l[i]? = some x → w.cell? ⟨d, lo + i, none⟩ = some (.int .u8 x.toNat)
def lenOfS : Value → Nat | .slice _ n _ => n | _ => 0

theorem wraps64 (n : Int) (h0 : 0 ≤ n) (h1 : n < 2 ^ 32) : IntKind.u64.wrap n = n := by rw [IntKind.wrap_u64]; omega
theorem or16 (a b : Nat) (ha : a < 256) (hb : b < 256) : bits .or .u64 ((a : Int) * 65536) ((b : Int) * 256) = ((a * 65536 + b * 256 : Nat) : Int) := by
  rw [bits_join .u64 32 (by decide) wraps64 16 ((a : Int) * 65536) ((b : Int) * 256) (by omega) (by omega) (by omega) (by omega) (by omega) (by omega)]
  simp
theorem or8 (v c : Nat) (hv : v < 16777216) (hv2 : v % 256 = 0) (hc : c < 256) : bits .or .u64 (v : Int) (c : Int) = ((v + c : Nat) : Int) := by
  rw [bits_join .u64 32 (by decide) wraps64 8 (v : Int) (c : Int) (by omega) (by omega) (by omega) (by omega) (by omega) (by omega)]
  simp
theorem and63 (v : Nat) (hv : v < 16777216) : bits .and .u64 (v : Int) 63 = ((v % 64 : Nat) : Int) := by
  have := bits_mask .u64 32 (by decide) wraps64 6 (by decide) (v : Int) (by omega) (by omega)
  simpa using this
theorem and63d (v k i : Nat) (hv : v < 16777216) (hi : i = v / k % 64) : bits .and .u64 ((v : Int) / (k : Int)) 63 = (i : Int) := by
  have h : ((v : Int) / (k : Int)) = ((v / k : Nat) : Int) := by simp
  rw [h, and63 _ (Nat.lt_of_le_of_lt (Nat.div_le_self _ _) hv), hi]

theorem slice_eq {d o o' n n' c c' : Nat} (ho : o = o') (hn : n = n') (hc : c = c') : Value.slice (some ⟨d, o, none⟩) n c = .slice (some ⟨d, o', none⟩) n' c' := by rw [ho, hn, hc]

theorem Out.snoc {d lo m : Nat} {l : List UInt8} {w : World} (h : Out d lo l w) (hl : l.length = m) (x : UInt8) (hs : (w.cell? ⟨d, lo + m, none⟩).isSome = true) : Out d lo (l ++ [x]) (w.setCell ⟨d, lo + m, none⟩ (.int .u8 x.toNat)) := by
  intro i y hy
  rw [cell_set]
  by_cases hi : i < m
  · rw [if_neg (by omega)]
    rw [List.getElem?_append_left (by omega)] at hy
    exact h i y hy
  · rw [List.getElem?_append_right (by omega)] at hy
    have : i = m := by
      rcases Nat.lt_or_ge (i - l.length) 1 with h1 | h1
      · omega
      · rw [List.getElem?_eq_none (by simpa using h1)] at hy; cases hy
    subst this
    rw [hl, Nat.sub_self] at hy
    simp only [List.getElem?_cons_zero, Option.some.injEq] at hy
    subst hy
    rw [if_pos rfl]
    cases hc : w.cell? ⟨d, lo + i, none⟩ with
    | none => rw [hc] at hs; cases hs
    | some z => rfl

/-- Four signs more. -/
theorem four {d lo n : Nat} {l : List UInt8} {w wr : World} (hsc : Sc d lo w wr) (h : Out d lo l wr) (j : Nat) (hl : l.length = 4 * j) (y0 y1 y2 y3 : UInt8) (hs : ∀ i, i < 4 → (wr.cell? ⟨d, lo + (4 * j + i), none⟩).isSome = true) :
    Sc d lo w ((((((wr.drewN n).setCell ⟨d, lo + 4 * j, none⟩ (.int .u8 y0.toNat)).setCell ⟨d, lo + 4 * j + 1, none⟩ (.int .u8 y1.toNat)).setCell ⟨d, lo + 4 * j + 2, none⟩ (.int .u8 y2.toNat)).setCell ⟨d, lo + 4 * j + 3, none⟩ (.int .u8 y3.toNat))) ∧
    Out d lo (l ++ [y0, y1, y2, y3]) ((((((wr.drewN n).setCell ⟨d, lo + 4 * j, none⟩ (.int .u8 y0.toNat)).setCell ⟨d, lo + 4 * j + 1, none⟩ (.int .u8 y1.toNat)).setCell ⟨d, lo + 4 * j + 2, none⟩ (.int .u8 y2.toNat)).setCell ⟨d, lo + 4 * j + 3, none⟩ (.int .u8 y3.toNat))) := by
  have o0 : Out d lo l (wr.drewN n) := h
  have c0 : Sc d lo w (wr.drewN n) := hsc.drewN n
  have s0 : Sc d lo wr (wr.drewN n) := (Sc.refl d lo wr).drewN n
  have t1 := Sc.set d lo (lo + 4 * j) (wr.drewN n) (.int .u8 y0.toNat) (by omega)
  have o1 := o0.snoc hl y0 (s0.some_ _ (hs 0 (by omega)))
  have t2 := Sc.set d lo (lo + 4 * j + 1) ((wr.drewN n).setCell ⟨d, lo + 4 * j, none⟩ (.int .u8 y0.toNat)) (.int .u8 y1.toNat) (by omega)
  have o2 := o1.snoc (m := 4 * j + 1) (by simp [hl]) y1 ((s0.trans t1).some_ _ (hs 1 (by omega)))
  have t3 := Sc.set d lo (lo + 4 * j + 2) (((wr.drewN n).setCell ⟨d, lo + 4 * j, none⟩ (.int .u8 y0.toNat)).setCell ⟨d, lo + 4 * j + 1, none⟩ (.int .u8 y1.toNat)) (.int .u8 y2.toNat) (by omega)
  have o3 := o2.snoc (m := 4 * j + 2) (by simp [hl]) y2 (((s0.trans t1).trans t2).some_ _ (hs 2 (by omega)))
  have t4 := Sc.set d lo (lo + 4 * j + 3) ((((wr.drewN n).setCell ⟨d, lo + 4 * j, none⟩ (.int .u8 y0.toNat)).setCell ⟨d, lo + 4 * j + 1, none⟩ (.int .u8 y1.toNat)).setCell ⟨d, lo + 4 * j + 2, none⟩ (.int .u8 y2.toNat)) (.int .u8 y3.toNat) (by omega)
  have o4 := o3.snoc (m := 4 * j + 3) (by simp [hl]) y3 ((((s0.trans t1).trans t2).trans t3).some_ _ (hs 3 (by omega)))
  refine ⟨(((c0.trans t1).trans t2).trans t3).trans t4, ?_⟩
  have e : l ++ [y0, y1, y2, y3] = l ++ [y0] ++ [y1] ++ [y2] ++ [y3] := by simp
  rw [e]
  exact o4

theorem b64_step (xs : List UInt8) (j : Nat) (x0 x1 x2 : UInt8) (h0 : xs[3 * j]? = some x0) (h1 : xs[3 * j + 1]? = some x1) (h2 : xs[3 * j + 2]? = some x2) :
    b64 (xs.take (3 * (j + 1))) = b64 (xs.take (3 * j)) ++ w4 (x0.toNat * 65536 + x1.toNat * 256 + x2.toNat) := by
  have l2 := (List.getElem?_eq_some_iff.1 h2).1
  have e : xs.take (3 * (j + 1)) = xs.take (3 * j) ++ [x0, x1, x2] := by
    rw [show 3 * (j + 1) = 3 * j + 1 + 1 + 1 by omega, List.take_add_one, h2, List.take_add_one, h1, List.take_add_one, h0]
    simp
  rw [e, b64_append _ _ (by rw [List.length_take]; omega)]
  simp [b64]

theorem b64_last1 (xs : List UInt8) (j : Nat) (x0 : UInt8) (h0 : xs[3 * j]? = some x0) (hl : xs.length = 3 * j + 1) :
    b64 xs = b64 (xs.take (3 * j)) ++ [al (x0.toNat * 65536 / 262144 % 64), al (x0.toNat * 65536 / 4096 % 64), 61, 61] := by
  have e : xs = xs.take (3 * j) ++ [x0] := by
    have h : xs.take (3 * j + 1) = xs := List.take_of_length_le (by omega)
    rw [List.take_add_one, h0] at h
    exact h.symm
  conv => lhs; rw [e]
  rw [b64_append _ _ (by rw [List.length_take]; omega)]
  rfl
theorem b64_last2 (xs : List UInt8) (j : Nat) (x0 x1 : UInt8) (h0 : xs[3 * j]? = some x0) (h1 : xs[3 * j + 1]? = some x1) (hl : xs.length = 3 * j + 2) :
    b64 xs = b64 (xs.take (3 * j)) ++ [al ((x0.toNat * 65536 + x1.toNat * 256) / 262144 % 64), al ((x0.toNat * 65536 + x1.toNat * 256) / 4096 % 64), al ((x0.toNat * 65536 + x1.toNat * 256) / 64 % 64), 61] := by
  have e : xs = xs.take (3 * j) ++ [x0, x1] := by
    have h : xs.take (3 * j + 1 + 1) = xs := List.take_of_length_le (by omega)
    rw [List.take_add_one, h1, List.take_add_one, h0] at h
    simpa using h.symm
  conv => lhs; rw [e]
  rw [b64_append _ _ (by rw [List.length_take]; omega)]
  rfl

set_option maxHeartbeats 8000000 in
set_option maxRecDepth 100000 in
theorem encode_any (g d lo sb so n cap : Nat) (xs : List UInt8) (w : World) (hg : IsEnc g 64 w) (hgd : g ≠ d) (hdst : ∀ j, j < 1024 → (w.cell? ⟨d, lo + j, none⟩).isSome = true ∧ w.frozen? ⟨d, lo + j, none⟩ = false)
    (hn : xs.length = n) (hn0 : 0 < n) (hn2 : n ≤ 60) (hcap : n ≤ cap) (hs : Src d lo w sb so xs) :
    Calls Tryd.prog 97 #[.pointer (some ⟨g, 0, none⟩), .slice (some ⟨d, lo, none⟩) 1024 1024, .slice (some ⟨sb, so, none⟩) n cap] w fun e w' => e = .returned (.tuple #[]) ∧ Sc d lo w w' ∧ Out d lo (b64 xs) w' := by
  have HG := Lib.hid hg
  have HD := Lib.hid hdst
  have HS := Lib.hid hs
  have HN := Lib.hid hn
  have b0 : ((n : Int) == 0) = false := by rw [beq_eq_false_iff_ne]; omega
  clear hg hdst hs hn
  have HE := Lib.hid (encHead_cells HG.out)
  go_enter Tryd.func97, Tryd.ntmps97
  go_wp2_with (refine wpList_load_cells rfl 101 _ rfl ⟨g, 0, none⟩ rfl encHead HE.out _ Tryd.underlying101 rfl (by rw [encHead_len]; exact info101) ?_)
  go_frame
  generalize encHead.toArray = EH
  clear HE
  go_loopw [1, 2] (fun d1 s2 wr => ∃ (j m r : Nat) (a2 : Option Addr) (c2 : Nat), Hid (3 * j + m = n ∧ 4 * j + r = 1024) ∧ d1 = .slice (some ⟨d, lo + 4 * j, none⟩) r r ∧ s2 = .slice a2 m c2 ∧ m ≤ c2 ∧ Hid (0 < m → a2 = some ⟨sb, so + 3 * j, none⟩) ∧ Hid (Sc d lo w wr ∧ Out d lo (b64 (xs.take (3 * j))) wr)) (fun _ s2 _ => lenOfS s2)
  case atStart => exact ⟨0, n, 1024, _, _, Lib.hid ⟨by omega, by omega⟩, rfl, rfl, hcap, Lib.hid (fun _ => rfl), Lib.hid ⟨Sc.refl _ _ _, by intro i x hx; simp [b64] at hx⟩⟩
  case round =>
    obtain ⟨j, m, r, a2, c2, HJ, rfl, rfl, hc2, HA, HSO⟩ := hrel
    obtain ⟨hj1, hj2⟩ := HJ.out
    have hj3 : 4 * j ≤ 80 := by omega
    have hr5 : 5 ≤ r := by omega
    have hr6 : r ≤ 1024 := by omega
    have hm6 : m ≤ 60 := by omega
    have hlb : (b64 (xs.take (3 * j))).length = 4 * j := by
      rw [b64_len, List.length_take, HN.out, Nat.min_eq_left (by omega)]; omega
    have HLB := Lib.hid hlb
    clear hj1 hj2 hlb
    obtain ⟨hsc, hout⟩ := HSO.out
    have HEg : Hid (IsEnc g 64 wr) := Lib.hid (by show wr.heap[g]? = _; rw [hsc.block g hgd]; exact HG.out)
    have hdl : ∀ i, i < 4 → ∃ z, wr.cell? ⟨d, lo + (4 * j + i), none⟩ = some z := fun i hi => Option.isSome_iff_exists.1 (hsc.some_ _ (HD.out _ (by omega)).1)
    obtain ⟨z0, q0⟩ := hdl 0 (by omega)
    obtain ⟨z1, q1⟩ := hdl 1 (by omega)
    obtain ⟨z2, q2⟩ := hdl 2 (by omega)
    obtain ⟨z3, q3⟩ := hdl 3 (by omega)
    have Hdl := Lib.hid hdl
    clear hdl
    replace q0 : wr.cell? ⟨d, lo + 4 * j, none⟩ = some z0 := q0
    replace q1 : wr.cell? ⟨d, lo + 4 * j + 1, none⟩ = some z1 := q1
    replace q2 : wr.cell? ⟨d, lo + 4 * j + 2, none⟩ = some z2 := q2
    replace q3 : wr.cell? ⟨d, lo + 4 * j + 3, none⟩ = some z3 := q3
    have f0 : wr.frozen? ⟨d, lo + 4 * j, none⟩ = false := (hsc.frozen _).trans (HD.out _ (by omega)).2
    have f1 : wr.frozen? ⟨d, lo + 4 * j + 1, none⟩ = false := (hsc.frozen _).trans (HD.out (4 * j + 1) (by omega)).2
    have f2 : wr.frozen? ⟨d, lo + 4 * j + 2, none⟩ = false := (hsc.frozen _).trans (HD.out (4 * j + 2) (by omega)).2
    have f3 : wr.frozen? ⟨d, lo + 4 * j + 3, none⟩ = false := (hsc.frozen _).trans (HD.out (4 * j + 3) (by omega)).2
    have hdg : d ≠ g := fun e => hgd e.symm
    have HH := Lib.hid (And.intro hsc hout)
    clear hsc hout HSO
    by_cases hge : 3 ≤ m
    · obtain rfl := HA.out (by omega)
      obtain ⟨x0, hx0⟩ : ∃ x, xs[3 * j]? = some x := ⟨_, List.getElem?_eq_getElem (by rw [HN.out]; have := HJ.out; omega)⟩
      obtain ⟨x1, hx1⟩ : ∃ x, xs[3 * j + 1]? = some x := ⟨_, List.getElem?_eq_getElem (by rw [HN.out]; have := HJ.out; omega)⟩
      obtain ⟨x2, hx2⟩ : ∃ x, xs[3 * j + 2]? = some x := ⟨_, List.getElem?_eq_getElem (by rw [HN.out]; have := HJ.out; omega)⟩
      have s0 := HS.out wr HH.out.1 _ _ hx0
      have s1 : wr.cell? ⟨sb, so + 3 * j + 1, none⟩ = _ := HS.out wr HH.out.1 _ _ hx1
      have s2 : wr.cell? ⟨sb, so + 3 * j + 2, none⟩ = _ := HS.out wr HH.out.1 _ _ hx2
      have HST := Lib.hid (b64_step xs j x0 x1 x2 hx0 hx1 hx2)
      have u0 := x0.toNat_lt
      have u1 := x1.toNat_lt
      have u2 := x2.toNat_lt
      clear hx0 hx1 hx2
      obtain ⟨v1, hv1⟩ : ∃ v1, v1 = x0.toNat * 65536 + x1.toNat * 256 := ⟨_, rfl⟩
      obtain ⟨v, hv⟩ : ∃ v, v = v1 + x2.toNat := ⟨_, rfl⟩
      have o1 : bits .or .u64 ((x0.toNat : Int) * 65536) ((x1.toNat : Int) * 256) = (v1 : Int) := by rw [or16 _ _ u0 u1, hv1]
      have o2 : bits .or .u64 (v1 : Int) (x2.toNat : Int) = (v : Int) := by rw [or8 _ _ (by omega) (by omega) u2, hv]
      have hv3 : v < 16777216 := by omega
      have HV : Hid (v = x0.toNat * 65536 + x1.toNat * 256 + x2.toNat) := Lib.hid (by omega)
      clear hv1 hv
      obtain ⟨i0, hi0⟩ : ∃ i, i = v / 262144 % 64 := ⟨_, rfl⟩
      obtain ⟨i1, hi1⟩ : ∃ i, i = v / 4096 % 64 := ⟨_, rfl⟩
      obtain ⟨i2, hi2⟩ : ∃ i, i = v / 64 % 64 := ⟨_, rfl⟩
      obtain ⟨i3, hi3⟩ : ∃ i, i = v % 64 := ⟨_, rfl⟩
      have a0 : bits .and .u64 ((v : Int) / 262144) 63 = (i0 : Int) := and63d v 262144 i0 hv3 hi0
      have a1 : bits .and .u64 ((v : Int) / 4096) 63 = (i1 : Int) := and63d v 4096 i1 hv3 hi1
      have a2 : bits .and .u64 ((v : Int) / 64) 63 = (i2 : Int) := and63d v 64 i2 hv3 hi2
      have a3 : bits .and .u64 (v : Int) 63 = (i3 : Int) := by rw [and63 v hv3, hi3]
      have l0 : i0 < 64 := by omega
      have l1 : i1 < 64 := by omega
      have l2 : i2 < 64 := by omega
      have l3 : i3 < 64 := by omega
      obtain ⟨y0, hy0⟩ : ∃ y, y = al i0 := ⟨_, rfl⟩
      obtain ⟨y1, hy1⟩ : ∃ y, y = al i1 := ⟨_, rfl⟩
      obtain ⟨y2, hy2⟩ : ∃ y, y = al i2 := ⟨_, rfl⟩
      obtain ⟨y3, hy3⟩ : ∃ y, y = al i3 := ⟨_, rfl⟩
      have e0 : wr.cell? ⟨g, i0, none⟩ = some (.int .u8 y0.toNat) := by rw [hy0]; exact HEg.out.cell _ _ (ENC_enc _ _ l0)
      have e1 : wr.cell? ⟨g, i1, none⟩ = some (.int .u8 y1.toNat) := by rw [hy1]; exact HEg.out.cell _ _ (ENC_enc _ _ l1)
      have e2 : wr.cell? ⟨g, i2, none⟩ = some (.int .u8 y2.toNat) := by rw [hy2]; exact HEg.out.cell _ _ (ENC_enc _ _ l2)
      have e3 : wr.cell? ⟨g, i3, none⟩ = some (.int .u8 y3.toNat) := by rw [hy3]; exact HEg.out.cell _ _ (ENC_enc _ _ l3)
      have HW : Hid (w4 (x0.toNat * 65536 + x1.toNat * 256 + x2.toNat) = [y0, y1, y2, y3]) := Lib.hid (by rw [← HV.out, hy0, hy1, hy2, hy3, hi0, hi1, hi2, hi3]; rfl)
      clear hi0 hi1 hi2 hi3 hy0 hy1 hy2 hy3
      have k0 : (0 : Int) < (m : Int) := by omega
      have k1 : (1 : Int) < (m : Int) := by omega
      have k2 : (2 : Int) < (m : Int) := by omega
      go_wp2_with fail
      go_quiet (fail)
      have HF := fun q => Lib.hid (four (n := q) HH.out.1 HH.out.2 j HLB.out y0 y1 y2 y3 (fun i hi => by obtain ⟨z, hz⟩ := Hdl.out i hi; rw [hz]; rfl))
      have HF' := Lib.hid HF
      clear HF
      by_cases hcc : c2 = 3
      · obtain rfl : c2 = 3 := hcc
        obtain rfl : m = 3 := by omega
        go_wp2_with fail
        refine ⟨⟨j + 1, 0, r - 4, _, _, Lib.hid ⟨by have := HJ.out; omega, by have := HJ.out; omega⟩, slice_eq (by omega) rfl rfl, rfl, by omega, Lib.hid (fun h => absurd h (by omega)), ?_⟩, ?_⟩
        · rw [HST.out, HW.out]; exact HF'.out _
        · simp [lenOfS]
      · go_wp2_with fail
        refine ⟨⟨j + 1, m - 3, r - 4, _, _, Lib.hid ⟨by have := HJ.out; omega, by have := HJ.out; omega⟩, slice_eq (by omega) rfl rfl, rfl, by omega, Lib.hid (fun _ => by rw [show so + 3 * (j + 1) = so + 3 * j + 3 by omega]), ?_⟩, ?_⟩
        · rw [HST.out, HW.out]; exact HF'.out _
        · simp only [lenOfS]; omega
    · have hm3 : m = 0 ∨ m = 1 ∨ m = 2 := by omega
      rcases hm3 with rfl | rfl | rfl
      · have hx : Hid (xs.take (3 * j) = xs) := Lib.hid (List.take_of_length_le (by rw [HN.out]; have := HJ.out; omega))
        go_wp2_with fail
        refine bodyPost_ret (results_none rfl _ _ _) rfl ?_
        refine ⟨rfl, HH.out.1, ?_⟩
        have h2 := HH.out.2
        rw [hx.out] at h2
        exact h2
      · obtain rfl := HA.out (by omega)
        obtain ⟨x0, hx0⟩ : ∃ x, xs[3 * j]? = some x := ⟨_, List.getElem?_eq_getElem (by rw [HN.out]; have := HJ.out; omega)⟩
        have s0 := HS.out wr HH.out.1 _ _ hx0
        have HST := Lib.hid (b64_last1 xs j x0 hx0 (by rw [HN.out]; have := HJ.out; omega))
        have u0 := x0.toNat_lt
        clear hx0
        obtain ⟨v, hv⟩ : ∃ v, v = x0.toNat * 65536 := ⟨_, rfl⟩
        have o1 : (x0.toNat : Int) * 65536 = (v : Int) := by rw [hv]; simp
        have hv3 : v < 16777216 := by omega
        have HV := Lib.hid hv
        clear hv
        obtain ⟨i0, hi0⟩ : ∃ i, i = v / 262144 % 64 := ⟨_, rfl⟩
        obtain ⟨i1, hi1⟩ : ∃ i, i = v / 4096 % 64 := ⟨_, rfl⟩
        have a0 : bits .and .u64 ((v : Int) / 262144) 63 = (i0 : Int) := and63d v 262144 i0 hv3 hi0
        have a1 : bits .and .u64 ((v : Int) / 4096) 63 = (i1 : Int) := and63d v 4096 i1 hv3 hi1
        have l0 : i0 < 64 := by omega
        have l1 : i1 < 64 := by omega
        obtain ⟨y0, hy0⟩ : ∃ y, y = al i0 := ⟨_, rfl⟩
        obtain ⟨y1, hy1⟩ : ∃ y, y = al i1 := ⟨_, rfl⟩
        have e0 : wr.cell? ⟨g, i0, none⟩ = some (.int .u8 y0.toNat) := by rw [hy0]; exact HEg.out.cell _ _ (ENC_enc _ _ l0)
        have e1 : wr.cell? ⟨g, i1, none⟩ = some (.int .u8 y1.toNat) := by rw [hy1]; exact HEg.out.cell _ _ (ENC_enc _ _ l1)
        have ep : wr.cell? ⟨g, 320, none⟩ = some (.int .i32 61) := HEg.out.cell _ _ (ENC_pad _)
        have HW : Hid ([al (x0.toNat * 65536 / 262144 % 64), al (x0.toNat * 65536 / 4096 % 64), 61, 61] = [y0, y1, 61, 61]) := Lib.hid (by rw [← HV.out, hy0, hy1, hi0, hi1])
        clear hi0 hi1 hy0 hy1
        have HF := fun q => Lib.hid (four (n := q) HH.out.1 HH.out.2 j HLB.out y0 y1 61 61 (fun i hi => by obtain ⟨z, hz⟩ := Hdl.out i hi; rw [hz]; rfl))
        have HF' := Lib.hid HF
        clear HF
        go_wp2_with fail
        go_end0
        rw [HST.out, HW.out]
        exact ⟨rfl, (HF'.out 0).out⟩
      · obtain rfl := HA.out (by omega)
        obtain ⟨x0, hx0⟩ : ∃ x, xs[3 * j]? = some x := ⟨_, List.getElem?_eq_getElem (by rw [HN.out]; have := HJ.out; omega)⟩
        obtain ⟨x1, hx1⟩ : ∃ x, xs[3 * j + 1]? = some x := ⟨_, List.getElem?_eq_getElem (by rw [HN.out]; have := HJ.out; omega)⟩
        have s0 := HS.out wr HH.out.1 _ _ hx0
        have s1 : wr.cell? ⟨sb, so + 3 * j + 1, none⟩ = _ := HS.out wr HH.out.1 _ _ hx1
        have HST := Lib.hid (b64_last2 xs j x0 x1 hx0 hx1 (by rw [HN.out]; have := HJ.out; omega))
        have u0 := x0.toNat_lt
        have u1 := x1.toNat_lt
        clear hx0 hx1
        obtain ⟨v, hv⟩ : ∃ v, v = x0.toNat * 65536 + x1.toNat * 256 := ⟨_, rfl⟩
        have o1 : bits .or .u64 ((x0.toNat : Int) * 65536) ((x1.toNat : Int) * 256) = (v : Int) := by rw [or16 _ _ u0 u1, hv]
        have hv3 : v < 16777216 := by omega
        have HV := Lib.hid hv
        clear hv
        obtain ⟨i0, hi0⟩ : ∃ i, i = v / 262144 % 64 := ⟨_, rfl⟩
        obtain ⟨i1, hi1⟩ : ∃ i, i = v / 4096 % 64 := ⟨_, rfl⟩
        obtain ⟨i2, hi2⟩ : ∃ i, i = v / 64 % 64 := ⟨_, rfl⟩
        have a0 : bits .and .u64 ((v : Int) / 262144) 63 = (i0 : Int) := and63d v 262144 i0 hv3 hi0
        have a1 : bits .and .u64 ((v : Int) / 4096) 63 = (i1 : Int) := and63d v 4096 i1 hv3 hi1
        have a2 : bits .and .u64 ((v : Int) / 64) 63 = (i2 : Int) := and63d v 64 i2 hv3 hi2
        have l0 : i0 < 64 := by omega
        have l1 : i1 < 64 := by omega
        have l2 : i2 < 64 := by omega
        obtain ⟨y0, hy0⟩ : ∃ y, y = al i0 := ⟨_, rfl⟩
        obtain ⟨y1, hy1⟩ : ∃ y, y = al i1 := ⟨_, rfl⟩
        obtain ⟨y2, hy2⟩ : ∃ y, y = al i2 := ⟨_, rfl⟩
        have e0 : wr.cell? ⟨g, i0, none⟩ = some (.int .u8 y0.toNat) := by rw [hy0]; exact HEg.out.cell _ _ (ENC_enc _ _ l0)
        have e1 : wr.cell? ⟨g, i1, none⟩ = some (.int .u8 y1.toNat) := by rw [hy1]; exact HEg.out.cell _ _ (ENC_enc _ _ l1)
        have e2 : wr.cell? ⟨g, i2, none⟩ = some (.int .u8 y2.toNat) := by rw [hy2]; exact HEg.out.cell _ _ (ENC_enc _ _ l2)
        have ep : wr.cell? ⟨g, 320, none⟩ = some (.int .i32 61) := HEg.out.cell _ _ (ENC_pad _)
        have HW : Hid ([al ((x0.toNat * 65536 + x1.toNat * 256) / 262144 % 64), al ((x0.toNat * 65536 + x1.toNat * 256) / 4096 % 64), al ((x0.toNat * 65536 + x1.toNat * 256) / 64 % 64), 61] = [y0, y1, y2, 61]) := Lib.hid (by rw [← HV.out, hy0, hy1, hy2, hi0, hi1, hi2])
        clear hi0 hi1 hi2 hy0 hy1 hy2
        have HF := fun q => Lib.hid (four (n := q) HH.out.1 HH.out.2 j HLB.out y0 y1 y2 61 (fun i hi => by obtain ⟨z, hz⟩ := Hdl.out i hi; rw [hz]; rfl))
        have HF' := Lib.hid HF
        clear HF
        go_wp2_with fail
        go_quiet (fail)
        go_wp2_with fail
        go_end0
        rw [HST.out, HW.out]
        exact ⟨rfl, (HF'.out _).out⟩

end Go.Proofs.YtedhgkddfgpfhaaDoor.En
