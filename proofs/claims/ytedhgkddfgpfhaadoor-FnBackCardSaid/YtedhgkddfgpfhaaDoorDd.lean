/- The walk of base64's decodeQuantum, at the last four signs. -/
import Derived.Test.YtedhgkddfgpfhaaDoorDa
import Derived.LoopN
namespace Go.Proofs.YtedhgkddfgpfhaaDoor.Dd
open Go.RowKit Go.Proofs.YtedhgkddfgpfhaaDoor.B64 Go.Proofs.YtedhgkddfgpfhaaDoor.N Go.Proofs.YtedhgkddfgpfhaaDoor.En Go.Proofs.YtedhgkddfgpfhaaDoor.Ew Go.Proofs.YtedhgkddfgpfhaaDoor.Dq Go.Proofs.YtedhgkddfgpfhaaDoor.Da

def decMap : List Value := ((ENC 64).drop 64).take 256
theorem decMap_len : decMap.length = 256 := by unfold decMap; rw [List.length_take, List.length_drop, ENC_len]; rfl
theorem decMap_cells {g : Nat} {w : World} (h : IsEnc g 64 w) : ∀ j v, decMap[j]? = some v → w.cell? ((⟨g, 64, none⟩ : Addr).add j) = some v := by
  intro j v hv
  have hadd : (⟨g, 64, none⟩ : Addr).add j = ⟨g, 64 + j, none⟩ := by unfold Addr.add; split <;> simp_all
  rw [hadd]
  refine h.cell _ v ?_
  unfold decMap at hv
  rw [List.getElem?_take] at hv
  split at hv
  · rw [List.getElem?_drop] at hv; exact hv
  · cases hv
theorem info38 : (Tryd.prog.info? 38).map (·.size) = some 256 := by kernel_rfl

theorem _root_.Go.Proofs.YtedhgkddfgpfhaaDoor.En.Sc.kc {d lo : Nat} {w w' : World} (h : Sc d lo w w') (b i : Nat) (hb : b ≠ d) : w'.cell? ⟨b, i, none⟩ = w.cell? ⟨b, i, none⟩ := by
  unfold World.cell?; rw [h.block b hb]
theorem _root_.Go.Proofs.YtedhgkddfgpfhaaDoor.En.Sc.kf {d lo : Nat} {w w' : World} (h : Sc d lo w w') (b i : Nat) (hb : b ≠ d) : w'.frozen? ⟨b, i, none⟩ = w.frozen? ⟨b, i, none⟩ := by
  unfold World.frozen?; rw [h.block b hb]

theorem db4 (w : World) (q : Nat) (v0 v1 v2 v3 : Value) (h0 : (w.cell? ⟨q, 0, none⟩).isSome = true) (h1 : (w.cell? ⟨q, 1, none⟩).isSome = true) (h2 : (w.cell? ⟨q, 2, none⟩).isSome = true) (h3 : (w.cell? ⟨q, 3, none⟩).isSome = true) :
    Sc q 0 w ((((w.setCell ⟨q, 0, none⟩ v0).setCell ⟨q, 1, none⟩ v1).setCell ⟨q, 2, none⟩ v2).setCell ⟨q, 3, none⟩ v3) ∧
    ((((w.setCell ⟨q, 0, none⟩ v0).setCell ⟨q, 1, none⟩ v1).setCell ⟨q, 2, none⟩ v2).setCell ⟨q, 3, none⟩ v3).cell? ⟨q, 0, none⟩ = some v0 ∧
    ((((w.setCell ⟨q, 0, none⟩ v0).setCell ⟨q, 1, none⟩ v1).setCell ⟨q, 2, none⟩ v2).setCell ⟨q, 3, none⟩ v3).cell? ⟨q, 1, none⟩ = some v1 ∧
    ((((w.setCell ⟨q, 0, none⟩ v0).setCell ⟨q, 1, none⟩ v1).setCell ⟨q, 2, none⟩ v2).setCell ⟨q, 3, none⟩ v3).cell? ⟨q, 2, none⟩ = some v2 ∧
    ((((w.setCell ⟨q, 0, none⟩ v0).setCell ⟨q, 1, none⟩ v1).setCell ⟨q, 2, none⟩ v2).setCell ⟨q, 3, none⟩ v3).cell? ⟨q, 3, none⟩ = some v3 := by
  obtain ⟨a0, h0⟩ := Option.isSome_iff_exists.1 h0
  obtain ⟨a1, h1⟩ := Option.isSome_iff_exists.1 h1
  obtain ⟨a2, h2⟩ := Option.isSome_iff_exists.1 h2
  obtain ⟨a3, h3⟩ := Option.isSome_iff_exists.1 h3
  refine ⟨(((Sc.set q 0 0 w v0 (Nat.zero_le _)).trans (Sc.set q 0 1 _ v1 (Nat.zero_le _))).trans (Sc.set q 0 2 _ v2 (Nat.zero_le _))).trans (Sc.set q 0 3 _ v3 (Nat.zero_le _)), ?_, ?_, ?_, ?_⟩ <;> simp [cell_set, h0, h1, h2, h3]

/-- Only cells of block d from o on have been written, and blocks that are new. -/
structure Qp (d o : Nat) (w w' : World) : Prop where
  os : w'.os = w.os
  tape : w'.tape = w.tape
  output : w'.output = w.output
  size : w.heap.size ≤ w'.heap.size
  block : ∀ k, k < w.heap.size → k ≠ d → w'.heap[k]? = w.heap[k]?
  cell : ∀ i, i < o → w'.cell? ⟨d, i, none⟩ = w.cell? ⟨d, i, none⟩
/-- What the last four signs leave. -/
structure Qu (d o : Nat) (l : List UInt8) (w w' : World) : Prop where
  qp : Qp d o w w'
  out : Out d o l w'

theorem Qp.of (d o : Nat) {w w' : World} (h : Below w.heap.size w w') (hd : d < w.heap.size) : Qp d o w w' :=
  ⟨h.os, h.tape, h.output, h.size, fun k hk _ => h.block k hk, fun i _ => by unfold World.cell?; rw [h.block d hd]⟩
theorem Qp.scd {d o : Nat} {w a b : World} (h : Qp d o w a) (k : Sc d o a b) : Qp d o w b :=
  ⟨k.os.trans h.os, k.tape.trans h.tape, k.output.trans h.output, by rw [k.size]; exact h.size, fun i hi hd => (k.block i hd).trans (h.block i hi hd), fun i hi => (k.cell i hi).trans (h.cell i hi)⟩
theorem Qp.scq {d o q : Nat} {w a b : World} (h : Qp d o w a) (k : Sc q 0 a b) (hq : w.heap.size ≤ q) (hdq : d ≠ q) : Qp d o w b :=
  ⟨k.os.trans h.os, k.tape.trans h.tape, k.output.trans h.output, by rw [k.size]; exact h.size, fun i hi hd => (k.block i (by omega)).trans (h.block i hi hd), fun i hi => (k.kc d i hdq).trans (h.cell i hi)⟩

theorem set_same (w : World) (d o : Nat) (v : Value) (h : (w.cell? ⟨d, o, none⟩).isSome = true) : (w.setCell ⟨d, o, none⟩ v).cell? ⟨d, o, none⟩ = some v := by
  obtain ⟨z, hz⟩ := Option.isSome_iff_exists.1 h
  rw [cell_set, if_pos rfl, hz]; rfl

/-- One byte in the stretch. -/
theorem fin2 {d o : Nat} {w w3 : World} (h : Qp d o w w3) (y0 : UInt8) (s0 : (w3.cell? ⟨d, o, none⟩).isSome = true) : Qu d o [y0] w (w3.setCell ⟨d, o, none⟩ (.int .u8 y0.toNat)) := by
  refine ⟨h.scd (Sc.set d o o w3 _ (Nat.le_refl _)), ?_⟩
  intro i x hx
  match i, hx with
  | 0, hx => simp only [List.getElem?_cons_zero, Option.some.injEq] at hx; subst hx; exact set_same _ _ _ _ s0
theorem fin3 {d o q : Nat} {w w3 : World} (h : Qp d o w w3) (hq : w.heap.size ≤ q) (hdq : d ≠ q) (y0 y1 : UInt8) (z : Value) (s0 : (w3.cell? ⟨d, o, none⟩).isSome = true) (s1 : (w3.cell? ⟨d, o + 1, none⟩).isSome = true) :
    Qu d o [y0, y1] w (((w3.setCell ⟨d, o + 1, none⟩ (.int .u8 y1.toNat)).setCell ⟨q, 1, none⟩ z).setCell ⟨d, o, none⟩ (.int .u8 y0.toNat)) := by
  have k1 := Sc.set d o (o + 1) w3 (.int .u8 y1.toNat) (by omega)
  have k2 := Sc.set q 0 1 (w3.setCell ⟨d, o + 1, none⟩ (.int .u8 y1.toNat)) z (by omega)
  have hp := (h.scd k1).scq k2 hq hdq
  have c1 := (k2.kc d (o + 1) hdq).trans (set_same _ _ _ (.int .u8 y1.toNat) s1)
  have c0 : (((w3.setCell ⟨d, o + 1, none⟩ (.int .u8 y1.toNat)).setCell ⟨q, 1, none⟩ z).cell? ⟨d, o, none⟩).isSome = true := by rw [k2.kc d o hdq]; exact k1.some_ _ s0
  refine ⟨hp.scd (Sc.set d o o _ _ (Nat.le_refl _)), ?_⟩
  intro i x hx
  match i, hx with
  | 0, hx => simp only [List.getElem?_cons_zero, Option.some.injEq] at hx; subst hx; exact set_same _ _ _ _ c0
  | 1, hx =>
    simp only [List.getElem?_cons_succ, List.getElem?_cons_zero, Option.some.injEq] at hx; subst hx
    rw [cell_set, if_neg (by omega)]; exact c1
theorem fin4 {d o q : Nat} {w w3 : World} (h : Qp d o w w3) (hq : w.heap.size ≤ q) (hdq : d ≠ q) (y0 y1 y2 : UInt8) (z z' : Value) (s0 : (w3.cell? ⟨d, o, none⟩).isSome = true) (s1 : (w3.cell? ⟨d, o + 1, none⟩).isSome = true) (s2 : (w3.cell? ⟨d, o + 2, none⟩).isSome = true) :
    Qu d o [y0, y1, y2] w (((((w3.setCell ⟨d, o + 2, none⟩ (.int .u8 y2.toNat)).setCell ⟨q, 2, none⟩ z').setCell ⟨d, o + 1, none⟩ (.int .u8 y1.toNat)).setCell ⟨q, 1, none⟩ z).setCell ⟨d, o, none⟩ (.int .u8 y0.toNat)) := by
  have k1 := Sc.set d o (o + 2) w3 (.int .u8 y2.toNat) (by omega)
  have k2 := Sc.set q 0 2 (w3.setCell ⟨d, o + 2, none⟩ (.int .u8 y2.toNat)) z' (by omega)
  have hp := (h.scd k1).scq k2 hq hdq
  have c2 := (k2.kc d (o + 2) hdq).trans (set_same _ _ _ (.int .u8 y2.toNat) s2)
  have c1 : (((w3.setCell ⟨d, o + 2, none⟩ (.int .u8 y2.toNat)).setCell ⟨q, 2, none⟩ z').cell? ⟨d, o + 1, none⟩).isSome = true := by rw [k2.kc d _ hdq]; exact k1.some_ _ s1
  have c0 : (((w3.setCell ⟨d, o + 2, none⟩ (.int .u8 y2.toNat)).setCell ⟨q, 2, none⟩ z').cell? ⟨d, o, none⟩).isSome = true := by rw [k2.kc d _ hdq]; exact k1.some_ _ s0
  have hu := fin3 hp hq hdq y0 y1 z c0 c1
  refine ⟨hu.qp, ?_⟩
  intro i x hx
  match i, hx with
  | 0, hx => exact hu.out 0 x hx
  | 1, hx => exact hu.out 1 x hx
  | 2, hx =>
    simp only [List.getElem?_cons_succ, List.getElem?_cons_zero, Option.some.injEq] at hx; subst hx
    rw [cell_set, if_neg (by omega), (Sc.set q 0 1 _ z (by omega)).kc d _ hdq, cell_set, if_neg (by omega)]
    exact c2

/-- The three bytes, in the buffer. -/
theorem rb3 (w : World) (q : Nat) (v0 v1 v2 : Value) (h0 : (w.cell? ⟨q, 0, none⟩).isSome = true) (h1 : (w.cell? ⟨q, 1, none⟩).isSome = true) (h2 : (w.cell? ⟨q, 2, none⟩).isSome = true) :
    Sc q 0 w (((w.setCell ⟨q, 2, none⟩ v2).setCell ⟨q, 1, none⟩ v1).setCell ⟨q, 0, none⟩ v0) ∧
    (((w.setCell ⟨q, 2, none⟩ v2).setCell ⟨q, 1, none⟩ v1).setCell ⟨q, 0, none⟩ v0).cell? ⟨q, 0, none⟩ = some v0 ∧
    (((w.setCell ⟨q, 2, none⟩ v2).setCell ⟨q, 1, none⟩ v1).setCell ⟨q, 0, none⟩ v0).cell? ⟨q, 1, none⟩ = some v1 ∧
    (((w.setCell ⟨q, 2, none⟩ v2).setCell ⟨q, 1, none⟩ v1).setCell ⟨q, 0, none⟩ v0).cell? ⟨q, 2, none⟩ = some v2 := by
  obtain ⟨a0, h0⟩ := Option.isSome_iff_exists.1 h0
  obtain ⟨a1, h1⟩ := Option.isSome_iff_exists.1 h1
  obtain ⟨a2, h2⟩ := Option.isSome_iff_exists.1 h2
  refine ⟨((Sc.set q 0 2 w v2 (Nat.zero_le _)).trans (Sc.set q 0 1 _ v1 (Nat.zero_le _))).trans (Sc.set q 0 0 _ v0 (Nat.zero_le _)), ?_, ?_, ?_⟩ <;> simp [cell_set, h0, h1, h2]

theorem db3 (w : World) (q : Nat) (v0 v1 v2 : Value) (h0 : (w.cell? ⟨q, 0, none⟩).isSome = true) (h1 : (w.cell? ⟨q, 1, none⟩).isSome = true) (h2 : (w.cell? ⟨q, 2, none⟩).isSome = true) :
    (Sc q 0 w (((w.setCell ⟨q, 0, none⟩ v0).setCell ⟨q, 1, none⟩ v1).setCell ⟨q, 2, none⟩ v2) ∧ ∀ i, 3 ≤ i → (((w.setCell ⟨q, 0, none⟩ v0).setCell ⟨q, 1, none⟩ v1).setCell ⟨q, 2, none⟩ v2).cell? ⟨q, i, none⟩ = w.cell? ⟨q, i, none⟩) ∧
    (((w.setCell ⟨q, 0, none⟩ v0).setCell ⟨q, 1, none⟩ v1).setCell ⟨q, 2, none⟩ v2).cell? ⟨q, 0, none⟩ = some v0 ∧
    (((w.setCell ⟨q, 0, none⟩ v0).setCell ⟨q, 1, none⟩ v1).setCell ⟨q, 2, none⟩ v2).cell? ⟨q, 1, none⟩ = some v1 ∧
    (((w.setCell ⟨q, 0, none⟩ v0).setCell ⟨q, 1, none⟩ v1).setCell ⟨q, 2, none⟩ v2).cell? ⟨q, 2, none⟩ = some v2 := by
  obtain ⟨a0, h0⟩ := Option.isSome_iff_exists.1 h0
  obtain ⟨a1, h1⟩ := Option.isSome_iff_exists.1 h1
  obtain ⟨a2, h2⟩ := Option.isSome_iff_exists.1 h2
  refine ⟨⟨((Sc.set q 0 0 w v0 (Nat.zero_le _)).trans (Sc.set q 0 1 _ v1 (Nat.zero_le _))).trans (Sc.set q 0 2 _ v2 (Nat.zero_le _)), fun i hi => ?_⟩, ?_, ?_, ?_⟩
  · rw [cell_set, if_neg (by omega), cell_set, if_neg (by omega), cell_set, if_neg (by omega)]
  · simp [cell_set, h0]
  · simp [cell_set, h1]
  · simp [cell_set, h2]

theorem db2 (w : World) (q : Nat) (v0 v1 : Value) (h0 : (w.cell? ⟨q, 0, none⟩).isSome = true) (h1 : (w.cell? ⟨q, 1, none⟩).isSome = true) :
    (Sc q 0 w ((w.setCell ⟨q, 0, none⟩ v0).setCell ⟨q, 1, none⟩ v1) ∧ ∀ i, 2 ≤ i → ((w.setCell ⟨q, 0, none⟩ v0).setCell ⟨q, 1, none⟩ v1).cell? ⟨q, i, none⟩ = w.cell? ⟨q, i, none⟩) ∧
    ((w.setCell ⟨q, 0, none⟩ v0).setCell ⟨q, 1, none⟩ v1).cell? ⟨q, 0, none⟩ = some v0 ∧
    ((w.setCell ⟨q, 0, none⟩ v0).setCell ⟨q, 1, none⟩ v1).cell? ⟨q, 1, none⟩ = some v1 := by
  obtain ⟨a0, h0⟩ := Option.isSome_iff_exists.1 h0
  obtain ⟨a1, h1⟩ := Option.isSome_iff_exists.1 h1
  refine ⟨⟨(Sc.set q 0 0 w v0 (Nat.zero_le _)).trans (Sc.set q 0 1 _ v1 (Nat.zero_le _)), fun i hi => ?_⟩, ?_, ?_⟩
  · rw [cell_set, if_neg (by omega), cell_set, if_neg (by omega)]
  · simp [cell_set, h0]
  · simp [cell_set, h1]

set_option maxHeartbeats 8000000 in
set_option maxRecDepth 100000 in
theorem quantum4 (g d o n sb si L cap : Nat) (n0 n1 n2 n3 : Nat) (h0 : n0 < 64) (h1 : n1 < 64) (h2 : n2 < 64) (h3 : n3 < 64) (w : World) (hI : IsEnc g 64 w) (hL : si + 4 = L) (hL2 : L ≤ 1099511627776) (hn : 3 ≤ n)
    (s0 : w.cell? ⟨sb, si, none⟩ = some (.int .u8 (al n0).toNat)) (s1 : w.cell? ⟨sb, si + 1, none⟩ = some (.int .u8 (al n1).toNat)) (s2 : w.cell? ⟨sb, si + 2, none⟩ = some (.int .u8 (al n2).toNat)) (s3 : w.cell? ⟨sb, si + 3, none⟩ = some (.int .u8 (al n3).toNat))
    (hd : ∀ i, i < 3 → (w.cell? ⟨d, o + i, none⟩).isSome = true ∧ w.frozen? ⟨d, o + i, none⟩ = false) (hsb : sb < w.heap.size) (hdl : d < w.heap.size) (hgd : g ≠ d) :
    Calls Tryd.prog 59 #[.pointer (some ⟨g, 0, none⟩), .slice (some ⟨d, o, none⟩) n n, .slice (some ⟨sb, 0, none⟩) L cap, .int .i64 si] w fun r w' => r = .returned (.tuple #[.int .i64 L, .int .i64 3, .nilIface]) ∧ Qu d o [UInt8.ofNat ((n0 * 262144 + n1 * 4096 + n2 * 64 + n3) / 65536), UInt8.ofNat ((n0 * 262144 + n1 * 4096 + n2 * 64 + n3) / 256), UInt8.ofNat (n0 * 262144 + n1 * 4096 + n2 * 64 + n3)] w w' := by
  have hg := hI.lt
  have HI := Lib.hid hI
  clear hI
  obtain ⟨q, hq⟩ : ∃ q, q = w.heap.size := ⟨_, rfl⟩
  obtain ⟨w1, hw1⟩ : ∃ w1, w1 = w.alloc (.cells #[.int .u8 0, .int .u8 0, .int .u8 0, .int .u8 0] 145) := ⟨_, rfl⟩
  have hh : w1.heap[q]? = some (.cells #[.int .u8 0, .int .u8 0, .int .u8 0, .int .u8 0] 145 (0, 0)) := by rw [hw1, hq]; exact heap_alloc_new w _
  have d0 : w1.cell? ⟨q, 0, none⟩ = some (.int .u8 0) := by rw [Lib.cell_of_heap hh]; rfl
  have d1 : w1.cell? ⟨q, 1, none⟩ = some (.int .u8 0) := by rw [Lib.cell_of_heap hh]; rfl
  have d2 : w1.cell? ⟨q, 2, none⟩ = some (.int .u8 0) := by rw [Lib.cell_of_heap hh]; rfl
  have d3 : w1.cell? ⟨q, 3, none⟩ = some (.int .u8 0) := by rw [Lib.cell_of_heap hh]; rfl
  have e0 : w1.frozen? ⟨q, 0, none⟩ = false := Lib.frozen_of_heap hh 0
  have e1 : w1.frozen? ⟨q, 1, none⟩ = false := Lib.frozen_of_heap hh 1
  have e2 : w1.frozen? ⟨q, 2, none⟩ = false := Lib.frozen_of_heap hh 2
  have e3 : w1.frozen? ⟨q, 3, none⟩ = false := Lib.frozen_of_heap hh 3
  have B1 : Below w.heap.size w w1 := by rw [hw1]; exact (Below.refl _ w).alloc (Nat.le_refl _) _
  have HB := Lib.hid B1
  have kc : ∀ b i, b < w.heap.size → w1.cell? ⟨b, i, none⟩ = w.cell? ⟨b, i, none⟩ := fun b i hb => by unfold World.cell?; rw [B1.block b hb]
  have kf : ∀ b i, b < w.heap.size → w1.frozen? ⟨b, i, none⟩ = w.frozen? ⟨b, i, none⟩ := fun b i hb => by unfold World.frozen?; rw [B1.block b hb]
  have HI1 : Hid (IsEnc g 64 w1) := Lib.hid ((B1.block g hg).trans HI.out)
  rw [← kc _ _ hsb] at s0 s1 s2 s3
  have m0 : w1.cell? ⟨g, 64 + (al n0).toNat, none⟩ = some (.int .u8 n0) := HI1.out.cell _ _ (by rw [ENC_dec _ _ (al n0).toNat_lt, dm_al n0 h0])
  have m1 : w1.cell? ⟨g, 64 + (al n1).toNat, none⟩ = some (.int .u8 n1) := HI1.out.cell _ _ (by rw [ENC_dec _ _ (al n1).toNat_lt, dm_al n1 h1])
  have m2 : w1.cell? ⟨g, 64 + (al n2).toNat, none⟩ = some (.int .u8 n2) := HI1.out.cell _ _ (by rw [ENC_dec _ _ (al n2).toNat_lt, dm_al n2 h2])
  have m3 : w1.cell? ⟨g, 64 + (al n3).toNat, none⟩ = some (.int .u8 n3) := HI1.out.cell _ _ (by rw [ENC_dec _ _ (al n3).toNat_lt, dm_al n3 h3])
  obtain ⟨z0, q0⟩ := Option.isSome_iff_exists.1 (hd 0 (by omega)).1
  obtain ⟨z1, q1⟩ := Option.isSome_iff_exists.1 (hd 1 (by omega)).1
  obtain ⟨z2, q2⟩ := Option.isSome_iff_exists.1 (hd 2 (by omega)).1
  have f0 := (hd 0 (by omega)).2
  have f1 := (hd 1 (by omega)).2
  have f2 := (hd 2 (by omega)).2
  rw [← kc _ _ hdl] at q0 q1 q2
  rw [← kf _ _ hdl] at f0 f1 f2
  replace q0 : w1.cell? ⟨d, o, none⟩ = some z0 := q0
  replace f0 : w1.frozen? ⟨d, o, none⟩ = false := f0
  have x0 : d ≠ g := fun e => hgd e.symm
  have x1 : sb ≠ q := by omega
  have x2 : q ≠ sb := by omega
  have x3 : d ≠ q := by omega
  have x4 : q ≠ d := by omega
  have x5 : g ≠ q := by omega
  have x6 : q ≠ g := by omega
  have u0 : ((n0 : Int) == 255) = false := by rw [beq_eq_false_iff_ne]; omega
  have u1 : ((n1 : Int) == 255) = false := by rw [beq_eq_false_iff_ne]; omega
  have u2 : ((n2 : Int) == 255) = false := by rw [beq_eq_false_iff_ne]; omega
  have u3 : ((n3 : Int) == 255) = false := by rw [beq_eq_false_iff_ne]; omega
  have t0 := (al n0).toNat_lt
  have t1 := (al n1).toNat_lt
  have t2 := (al n2).toNat_lt
  have t3 := (al n3).toNat_lt
  have HM := Lib.hid (decMap_cells HI1.out)
  rw [hw1] at HM
  have HZ := Lib.hid hq
  have HD := Lib.hid hd
  clear kc kf hd hh B1
  go_enter Tryd.func59, Tryd.ntmps59
  go_wp2_with (refine wpList_load_cells rfl 38 _ rfl ⟨g, 64, none⟩ rfl decMap HM.out _ Tryd.underlying38 rfl (by rw [decMap_len]; exact info38) ?_)
  rw [← hw1, ← hq]
  have HW1 := Lib.hid hw1
  clear hw1 hq
  generalize decMap.toArray = EH
  clear HM
  refine wp_loop_rounds 5 ?_
  rw [rounds_succ]; go_wp2_with fail
  rw [rounds_succ]; go_wp2_with fail
  rw [rounds_succ]; go_wp2_with fail
  rw [rounds_succ]; go_wp2_with fail
  have SW := db4 w1 q (.int .u8 n0) (.int .u8 n1) (.int .u8 n2) (.int .u8 n3) (by rw [d0]; rfl) (by rw [d1]; rfl) (by rw [d2]; rfl) (by rw [d3]; rfl)
  revert SW
  generalize ((((w1.setCell ⟨q, 0, none⟩ (.int .u8 n0)).setCell ⟨q, 1, none⟩ (.int .u8 n1)).setCell ⟨q, 2, none⟩ (.int .u8 n2)).setCell ⟨q, 3, none⟩ (.int .u8 n3)) = w2
  rintro ⟨hsc, c0, c1, c2, c3⟩
  rw [← hsc.kc d _ x3] at q0 q1 q2
  rw [← hsc.kf d _ x3] at f0 f1 f2
  have g1 : w2.cell? ⟨g, 321, none⟩ = some (.bool false) := by rw [hsc.kc g _ x5]; exact HI1.out.cell _ _ (ENC_strict _)
  rw [← hsc.frozen] at e0 e1 e2 e3
  have HS := Lib.hid hsc
  clear hsc s0 m0 u0 t0 s1 m1 u1 t1 s2 m2 u2 t2 s3 m3 u3 t3 d0 d1 d2 d3
  obtain ⟨p1, hp1⟩ : ∃ p : Nat, p = n0 * 262144 + n1 * 4096 := ⟨_, rfl⟩
  obtain ⟨p2, hp2⟩ : ∃ p : Nat, p = p1 + n2 * 64 := ⟨_, rfl⟩
  obtain ⟨v, hv⟩ : ∃ p : Nat, p = p2 + n3 := ⟨_, rfl⟩
  have J1 : bits .or .u64 ((n0 : Int) * 262144) ((n1 : Int) * 4096) = (p1 : Int) := by
    rw [bits_join .u64 64 (by decide) wraps64' 18 _ _ (by omega) (by omega) (by omega) (by omega) (by omega) (by omega)]; omega
  have J2 : bits .or .u64 (p1 : Int) ((n2 : Int) * 64) = (p2 : Int) := by
    rw [bits_join .u64 64 (by decide) wraps64' 12 _ _ (by omega) (by omega) (by omega) (by omega) (by omega) (by omega)]; omega
  have J3 : bits .or .u64 (p2 : Int) (n3 : Int) = (v : Int) := by
    rw [bits_join .u64 64 (by decide) wraps64' 6 _ _ (by omega) (by omega) (by omega) (by omega) (by omega) (by omega)]; omega
  have hv2 : v < 16777216 := by omega
  have HV : Hid ((n0 * 262144 + n1 * 4096 + n2 * 64 + n3) = v) := Lib.hid (by omega)
  clear hp1 hp2 hv
  rw [rounds_succ]; go_upto_region 40 with fail
  go_upto_region 46 with fail
  have E0 := u8v ((v : Int) / 65536) (v / 65536) (by omega)
  have E1 := u8v ((v : Int) / 256 % 256) (v / 256) (by omega)
  have E2 := u8v ((v : Int) % 256) v (by omega)
  rw [E0, E1, E2]
  have RW := rb3 w2 q (.int .u8 (UInt8.ofNat (v / 65536)).toNat) (.int .u8 (UInt8.ofNat (v / 256)).toNat) (.int .u8 (UInt8.ofNat v).toNat) (by show (w2.cell? _).isSome = true; rw [c0]; rfl) (by show (w2.cell? _).isSome = true; rw [c1]; rfl) (by show (w2.cell? _).isSome = true; rw [c2]; rfl)
  revert RW
  generalize ((w2.setCell ⟨q, 2, none⟩ (.int .u8 (UInt8.ofNat v).toNat)).setCell ⟨q, 1, none⟩ (.int .u8 (UInt8.ofNat (v / 256)).toNat)).setCell ⟨q, 0, none⟩ (.int .u8 (UInt8.ofNat (v / 65536)).toNat) = w3
  rintro ⟨hsc', r0, r1, r2⟩
  have hsc := hsc'
  clear hsc'
  rw [← hsc.kc d _ x3] at q0 q1 q2
  rw [← hsc.kf d _ x3] at f0 f1 f2
  rw [← hsc.kc g _ x5] at g1
  rw [← hsc.frozen] at e0 e1 e2 e3
  have HF := Lib.hid (fin4 (((Qp.of d o HB.out hdl).scq HS.out (Nat.le_of_eq HZ.out.symm) x3).scq hsc (Nat.le_of_eq HZ.out.symm) x3) (Nat.le_of_eq HZ.out.symm) x3 (UInt8.ofNat (v / 65536)) (UInt8.ofNat (v / 256)) (UInt8.ofNat v) (.int .u8 0) (.int .u8 0) (by rw [q0]; rfl) (by rw [q1]; rfl) (by rw [q2]; rfl))
  have HY : Hid ([UInt8.ofNat ((n0 * 262144 + n1 * 4096 + n2 * 64 + n3) / 65536), UInt8.ofNat ((n0 * 262144 + n1 * 4096 + n2 * 64 + n3) / 256), UInt8.ofNat (n0 * 262144 + n1 * 4096 + n2 * 64 + n3)] = [UInt8.ofNat (v / 65536), UInt8.ofNat (v / 256), UInt8.ofNat v]) := by rw [HV.out]; exact Lib.hid rfl
  clear hsc c0 c1 c2 c3 E0 E1 E2 J1 J2 J3
  generalize (UInt8.ofNat (v / 65536)) = y0 at *
  generalize (UInt8.ofNat (v / 256)) = y1 at *
  generalize (UInt8.ofNat v) = y2 at *
  go_wp2_with fail
  go_ret3
  rw [HY.out]
  exact ⟨by go_num, HF.out⟩

set_option maxHeartbeats 8000000 in
set_option maxRecDepth 100000 in
theorem quantum3 (g d o n sb si L cap : Nat) (n0 n1 n2 : Nat) (h0 : n0 < 64) (h1 : n1 < 64) (h2 : n2 < 64) (w : World) (hI : IsEnc g 64 w) (hL : si + 4 = L) (hL2 : L ≤ 1099511627776) (hn : 3 ≤ n)
    (s0 : w.cell? ⟨sb, si, none⟩ = some (.int .u8 (al n0).toNat)) (s1 : w.cell? ⟨sb, si + 1, none⟩ = some (.int .u8 (al n1).toNat)) (s2 : w.cell? ⟨sb, si + 2, none⟩ = some (.int .u8 (al n2).toNat)) (s3 : w.cell? ⟨sb, si + 3, none⟩ = some (.int .u8 61))
    (hd : ∀ i, i < 3 → (w.cell? ⟨d, o + i, none⟩).isSome = true ∧ w.frozen? ⟨d, o + i, none⟩ = false) (hsb : sb < w.heap.size) (hdl : d < w.heap.size) (hgd : g ≠ d) :
    Calls Tryd.prog 59 #[.pointer (some ⟨g, 0, none⟩), .slice (some ⟨d, o, none⟩) n n, .slice (some ⟨sb, 0, none⟩) L cap, .int .i64 si] w fun r w' => r = .returned (.tuple #[.int .i64 L, .int .i64 2, .nilIface]) ∧ Qu d o [UInt8.ofNat ((n0 * 262144 + n1 * 4096 + n2 * 64) / 65536), UInt8.ofNat ((n0 * 262144 + n1 * 4096 + n2 * 64) / 256)] w w' := by
  have hg := hI.lt
  have HI := Lib.hid hI
  clear hI
  obtain ⟨q, hq⟩ : ∃ q, q = w.heap.size := ⟨_, rfl⟩
  obtain ⟨w1, hw1⟩ : ∃ w1, w1 = w.alloc (.cells #[.int .u8 0, .int .u8 0, .int .u8 0, .int .u8 0] 145) := ⟨_, rfl⟩
  have hh : w1.heap[q]? = some (.cells #[.int .u8 0, .int .u8 0, .int .u8 0, .int .u8 0] 145 (0, 0)) := by rw [hw1, hq]; exact heap_alloc_new w _
  have d0 : w1.cell? ⟨q, 0, none⟩ = some (.int .u8 0) := by rw [Lib.cell_of_heap hh]; rfl
  have d1 : w1.cell? ⟨q, 1, none⟩ = some (.int .u8 0) := by rw [Lib.cell_of_heap hh]; rfl
  have d2 : w1.cell? ⟨q, 2, none⟩ = some (.int .u8 0) := by rw [Lib.cell_of_heap hh]; rfl
  have d3 : w1.cell? ⟨q, 3, none⟩ = some (.int .u8 0) := by rw [Lib.cell_of_heap hh]; rfl
  have e0 : w1.frozen? ⟨q, 0, none⟩ = false := Lib.frozen_of_heap hh 0
  have e1 : w1.frozen? ⟨q, 1, none⟩ = false := Lib.frozen_of_heap hh 1
  have e2 : w1.frozen? ⟨q, 2, none⟩ = false := Lib.frozen_of_heap hh 2
  have e3 : w1.frozen? ⟨q, 3, none⟩ = false := Lib.frozen_of_heap hh 3
  have B1 : Below w.heap.size w w1 := by rw [hw1]; exact (Below.refl _ w).alloc (Nat.le_refl _) _
  have HB := Lib.hid B1
  have kc : ∀ b i, b < w.heap.size → w1.cell? ⟨b, i, none⟩ = w.cell? ⟨b, i, none⟩ := fun b i hb => by unfold World.cell?; rw [B1.block b hb]
  have kf : ∀ b i, b < w.heap.size → w1.frozen? ⟨b, i, none⟩ = w.frozen? ⟨b, i, none⟩ := fun b i hb => by unfold World.frozen?; rw [B1.block b hb]
  have HI1 : Hid (IsEnc g 64 w1) := Lib.hid ((B1.block g hg).trans HI.out)
  rw [← kc _ _ hsb] at s0 s1 s2 s3
  have m0 : w1.cell? ⟨g, 64 + (al n0).toNat, none⟩ = some (.int .u8 n0) := HI1.out.cell _ _ (by rw [ENC_dec _ _ (al n0).toNat_lt, dm_al n0 h0])
  have m1 : w1.cell? ⟨g, 64 + (al n1).toNat, none⟩ = some (.int .u8 n1) := HI1.out.cell _ _ (by rw [ENC_dec _ _ (al n1).toNat_lt, dm_al n1 h1])
  have m2 : w1.cell? ⟨g, 64 + (al n2).toNat, none⟩ = some (.int .u8 n2) := HI1.out.cell _ _ (by rw [ENC_dec _ _ (al n2).toNat_lt, dm_al n2 h2])
  have mp : w1.cell? ⟨g, 125, none⟩ = some (.int .u8 255) := HI1.out.cell _ _ (ENC_dec 64 61 (by decide))
  have ep : w1.cell? ⟨g, 320, none⟩ = some (.int .i32 61) := HI1.out.cell _ _ (ENC_pad _)
  obtain ⟨z0, q0⟩ := Option.isSome_iff_exists.1 (hd 0 (by omega)).1
  obtain ⟨z1, q1⟩ := Option.isSome_iff_exists.1 (hd 1 (by omega)).1
  obtain ⟨z2, q2⟩ := Option.isSome_iff_exists.1 (hd 2 (by omega)).1
  have f0 := (hd 0 (by omega)).2
  have f1 := (hd 1 (by omega)).2
  have f2 := (hd 2 (by omega)).2
  rw [← kc _ _ hdl] at q0 q1 q2
  rw [← kf _ _ hdl] at f0 f1 f2
  replace q0 : w1.cell? ⟨d, o, none⟩ = some z0 := q0
  replace f0 : w1.frozen? ⟨d, o, none⟩ = false := f0
  have x0 : d ≠ g := fun e => hgd e.symm
  have x1 : sb ≠ q := by omega
  have x2 : q ≠ sb := by omega
  have x3 : d ≠ q := by omega
  have x4 : q ≠ d := by omega
  have x5 : g ≠ q := by omega
  have x6 : q ≠ g := by omega
  have u0 : ((n0 : Int) == 255) = false := by rw [beq_eq_false_iff_ne]; omega
  have u1 : ((n1 : Int) == 255) = false := by rw [beq_eq_false_iff_ne]; omega
  have u2 : ((n2 : Int) == 255) = false := by rw [beq_eq_false_iff_ne]; omega
  have t0 := (al n0).toNat_lt
  have t1 := (al n1).toNat_lt
  have t2 := (al n2).toNat_lt
  have HM := Lib.hid (decMap_cells HI1.out)
  rw [hw1] at HM
  have HZ := Lib.hid hq
  have HD := Lib.hid hd
  clear kc kf hd hh B1
  go_enter Tryd.func59, Tryd.ntmps59
  go_wp2_with (refine wpList_load_cells rfl 38 _ rfl ⟨g, 64, none⟩ rfl decMap HM.out _ Tryd.underlying38 rfl (by rw [decMap_len]; exact info38) ?_)
  rw [← hw1, ← hq]
  have HW1 := Lib.hid hw1
  clear hw1 hq
  generalize decMap.toArray = EH
  clear HM
  refine wp_loop_rounds 5 ?_
  rw [rounds_succ]; go_wp2_with fail
  rw [rounds_succ]; go_wp2_with fail
  rw [rounds_succ]; go_wp2_with fail
  have SW := db3 w1 q (.int .u8 n0) (.int .u8 n1) (.int .u8 n2) (by rw [d0]; rfl) (by rw [d1]; rfl) (by rw [d2]; rfl)
  revert SW
  generalize (((w1.setCell ⟨q, 0, none⟩ (.int .u8 n0)).setCell ⟨q, 1, none⟩ (.int .u8 n1)).setCell ⟨q, 2, none⟩ (.int .u8 n2)) = w2
  rintro ⟨hsc, c0, c1, c2⟩
  have c3 : w2.cell? ⟨q, 3, none⟩ = some (.int .u8 0) := by rw [(hsc.2 3 (by omega)), d3]
  replace hsc := hsc.1
  rw [← hsc.kc d _ x3] at q0 q1 q2
  rw [← hsc.kf d _ x3] at f0 f1 f2
  have g1 : w2.cell? ⟨g, 321, none⟩ = some (.bool false) := by rw [hsc.kc g _ x5]; exact HI1.out.cell _ _ (ENC_strict _)
  rw [← hsc.frozen] at e0 e1 e2 e3
  rw [← hsc.kc g _ x5] at mp ep
  rw [← hsc.kc sb _ x1] at s3
  have HS := Lib.hid hsc
  clear hsc s0 m0 u0 t0 s1 m1 u1 t1 s2 m2 u2 t2 d0 d1 d2 d3
  obtain ⟨p1, hp1⟩ : ∃ p : Nat, p = n0 * 262144 + n1 * 4096 := ⟨_, rfl⟩
  obtain ⟨v, hv⟩ : ∃ p : Nat, p = p1 + n2 * 64 := ⟨_, rfl⟩
  have J1 : bits .or .u64 ((n0 : Int) * 262144) ((n1 : Int) * 4096) = (p1 : Int) := by
    rw [bits_join .u64 64 (by decide) wraps64' 18 _ _ (by omega) (by omega) (by omega) (by omega) (by omega) (by omega)]; omega
  have J2 : bits .or .u64 (p1 : Int) ((n2 : Int) * 64) = (v : Int) := by
    rw [bits_join .u64 64 (by decide) wraps64' 12 _ _ (by omega) (by omega) (by omega) (by omega) (by omega) (by omega)]; omega
  have J3 : bits .or .u64 (v : Int) 0 = (v : Int) := by
    rw [bits_join .u64 64 (by decide) wraps64' 6 _ _ (by omega) (by omega) (by omega) (by omega) (by omega) (by omega)]; omega
  have hv2 : v < 16777216 := by omega
  have HV : Hid ((n0 * 262144 + n1 * 4096 + n2 * 64) = v) := Lib.hid (by omega)
  clear hp1 hv
  rw [rounds_succ]; go_wp2_with fail
  refine wp_loop_rounds 1 ?_
  rw [rounds_succ]; go_upto_region 40 with fail
  go_upto_region 48 with fail
  have E0 := u8v ((v : Int) / 65536) (v / 65536) (by omega)
  have E1 := u8v ((v : Int) / 256 % 256) (v / 256) (by omega)
  have E2 := u8v ((v : Int) % 256) v (by omega)
  rw [E0, E1, E2]
  have RW := rb3 w2 q (.int .u8 (UInt8.ofNat (v / 65536)).toNat) (.int .u8 (UInt8.ofNat (v / 256)).toNat) (.int .u8 (UInt8.ofNat v).toNat) (by show (w2.cell? _).isSome = true; rw [c0]; rfl) (by show (w2.cell? _).isSome = true; rw [c1]; rfl) (by show (w2.cell? _).isSome = true; rw [c2]; rfl)
  revert RW
  generalize ((w2.setCell ⟨q, 2, none⟩ (.int .u8 (UInt8.ofNat v).toNat)).setCell ⟨q, 1, none⟩ (.int .u8 (UInt8.ofNat (v / 256)).toNat)).setCell ⟨q, 0, none⟩ (.int .u8 (UInt8.ofNat (v / 65536)).toNat) = w3
  rintro ⟨hsc', r0, r1, r2⟩
  have hsc := hsc'
  clear hsc'
  rw [← hsc.kc d _ x3] at q0 q1 q2
  rw [← hsc.kf d _ x3] at f0 f1 f2
  rw [← hsc.kc g _ x5] at g1
  rw [← hsc.frozen] at e0 e1 e2 e3
  have HF := Lib.hid (fin3 (((Qp.of d o HB.out hdl).scq HS.out (Nat.le_of_eq HZ.out.symm) x3).scq hsc (Nat.le_of_eq HZ.out.symm) x3) (Nat.le_of_eq HZ.out.symm) x3 (UInt8.ofNat (v / 65536)) (UInt8.ofNat (v / 256)) (.int .u8 0) (by rw [q0]; rfl) (by rw [q1]; rfl))
  have HY : Hid ([UInt8.ofNat ((n0 * 262144 + n1 * 4096 + n2 * 64) / 65536), UInt8.ofNat ((n0 * 262144 + n1 * 4096 + n2 * 64) / 256)] = [UInt8.ofNat (v / 65536), UInt8.ofNat (v / 256)]) := by rw [HV.out]; exact Lib.hid rfl
  clear hsc c0 c1 c2 c3 E0 E1 E2 J1 J2 J3
  generalize (UInt8.ofNat (v / 65536)) = y0 at *
  generalize (UInt8.ofNat (v / 256)) = y1 at *
  generalize (UInt8.ofNat v) = y2 at *
  go_wp2_with fail
  go_ret3
  rw [HY.out]
  exact ⟨by go_num, HF.out⟩

set_option maxHeartbeats 8000000 in
set_option maxRecDepth 100000 in
theorem quantum2 (g d o n sb si L cap : Nat) (n0 n1 : Nat) (h0 : n0 < 64) (h1 : n1 < 64) (w : World) (hI : IsEnc g 64 w) (hL : si + 4 = L) (hL2 : L ≤ 1099511627776) (hn : 3 ≤ n)
    (s0 : w.cell? ⟨sb, si, none⟩ = some (.int .u8 (al n0).toNat)) (s1 : w.cell? ⟨sb, si + 1, none⟩ = some (.int .u8 (al n1).toNat)) (s2 : w.cell? ⟨sb, si + 2, none⟩ = some (.int .u8 61)) (s3 : w.cell? ⟨sb, si + 3, none⟩ = some (.int .u8 61))
    (hd : ∀ i, i < 3 → (w.cell? ⟨d, o + i, none⟩).isSome = true ∧ w.frozen? ⟨d, o + i, none⟩ = false) (hsb : sb < w.heap.size) (hdl : d < w.heap.size) (hgd : g ≠ d) :
    Calls Tryd.prog 59 #[.pointer (some ⟨g, 0, none⟩), .slice (some ⟨d, o, none⟩) n n, .slice (some ⟨sb, 0, none⟩) L cap, .int .i64 si] w fun r w' => r = .returned (.tuple #[.int .i64 L, .int .i64 1, .nilIface]) ∧ Qu d o [UInt8.ofNat ((n0 * 262144 + n1 * 4096) / 65536)] w w' := by
  have hg := hI.lt
  have HI := Lib.hid hI
  clear hI
  obtain ⟨q, hq⟩ : ∃ q, q = w.heap.size := ⟨_, rfl⟩
  obtain ⟨w1, hw1⟩ : ∃ w1, w1 = w.alloc (.cells #[.int .u8 0, .int .u8 0, .int .u8 0, .int .u8 0] 145) := ⟨_, rfl⟩
  have hh : w1.heap[q]? = some (.cells #[.int .u8 0, .int .u8 0, .int .u8 0, .int .u8 0] 145 (0, 0)) := by rw [hw1, hq]; exact heap_alloc_new w _
  have d0 : w1.cell? ⟨q, 0, none⟩ = some (.int .u8 0) := by rw [Lib.cell_of_heap hh]; rfl
  have d1 : w1.cell? ⟨q, 1, none⟩ = some (.int .u8 0) := by rw [Lib.cell_of_heap hh]; rfl
  have d2 : w1.cell? ⟨q, 2, none⟩ = some (.int .u8 0) := by rw [Lib.cell_of_heap hh]; rfl
  have d3 : w1.cell? ⟨q, 3, none⟩ = some (.int .u8 0) := by rw [Lib.cell_of_heap hh]; rfl
  have e0 : w1.frozen? ⟨q, 0, none⟩ = false := Lib.frozen_of_heap hh 0
  have e1 : w1.frozen? ⟨q, 1, none⟩ = false := Lib.frozen_of_heap hh 1
  have e2 : w1.frozen? ⟨q, 2, none⟩ = false := Lib.frozen_of_heap hh 2
  have e3 : w1.frozen? ⟨q, 3, none⟩ = false := Lib.frozen_of_heap hh 3
  have B1 : Below w.heap.size w w1 := by rw [hw1]; exact (Below.refl _ w).alloc (Nat.le_refl _) _
  have HB := Lib.hid B1
  have kc : ∀ b i, b < w.heap.size → w1.cell? ⟨b, i, none⟩ = w.cell? ⟨b, i, none⟩ := fun b i hb => by unfold World.cell?; rw [B1.block b hb]
  have kf : ∀ b i, b < w.heap.size → w1.frozen? ⟨b, i, none⟩ = w.frozen? ⟨b, i, none⟩ := fun b i hb => by unfold World.frozen?; rw [B1.block b hb]
  have HI1 : Hid (IsEnc g 64 w1) := Lib.hid ((B1.block g hg).trans HI.out)
  rw [← kc _ _ hsb] at s0 s1 s2 s3
  have m0 : w1.cell? ⟨g, 64 + (al n0).toNat, none⟩ = some (.int .u8 n0) := HI1.out.cell _ _ (by rw [ENC_dec _ _ (al n0).toNat_lt, dm_al n0 h0])
  have m1 : w1.cell? ⟨g, 64 + (al n1).toNat, none⟩ = some (.int .u8 n1) := HI1.out.cell _ _ (by rw [ENC_dec _ _ (al n1).toNat_lt, dm_al n1 h1])
  have mp : w1.cell? ⟨g, 125, none⟩ = some (.int .u8 255) := HI1.out.cell _ _ (ENC_dec 64 61 (by decide))
  have ep : w1.cell? ⟨g, 320, none⟩ = some (.int .i32 61) := HI1.out.cell _ _ (ENC_pad _)
  obtain ⟨z0, q0⟩ := Option.isSome_iff_exists.1 (hd 0 (by omega)).1
  obtain ⟨z1, q1⟩ := Option.isSome_iff_exists.1 (hd 1 (by omega)).1
  obtain ⟨z2, q2⟩ := Option.isSome_iff_exists.1 (hd 2 (by omega)).1
  have f0 := (hd 0 (by omega)).2
  have f1 := (hd 1 (by omega)).2
  have f2 := (hd 2 (by omega)).2
  rw [← kc _ _ hdl] at q0 q1 q2
  rw [← kf _ _ hdl] at f0 f1 f2
  replace q0 : w1.cell? ⟨d, o, none⟩ = some z0 := q0
  replace f0 : w1.frozen? ⟨d, o, none⟩ = false := f0
  have x0 : d ≠ g := fun e => hgd e.symm
  have x1 : sb ≠ q := by omega
  have x2 : q ≠ sb := by omega
  have x3 : d ≠ q := by omega
  have x4 : q ≠ d := by omega
  have x5 : g ≠ q := by omega
  have x6 : q ≠ g := by omega
  have u0 : ((n0 : Int) == 255) = false := by rw [beq_eq_false_iff_ne]; omega
  have u1 : ((n1 : Int) == 255) = false := by rw [beq_eq_false_iff_ne]; omega
  have t0 := (al n0).toNat_lt
  have t1 := (al n1).toNat_lt
  have HM := Lib.hid (decMap_cells HI1.out)
  rw [hw1] at HM
  have HZ := Lib.hid hq
  have HD := Lib.hid hd
  clear kc kf hd hh B1
  go_enter Tryd.func59, Tryd.ntmps59
  go_wp2_with (refine wpList_load_cells rfl 38 _ rfl ⟨g, 64, none⟩ rfl decMap HM.out _ Tryd.underlying38 rfl (by rw [decMap_len]; exact info38) ?_)
  rw [← hw1, ← hq]
  have HW1 := Lib.hid hw1
  clear hw1 hq
  generalize decMap.toArray = EH
  clear HM
  refine wp_loop_rounds 5 ?_
  rw [rounds_succ]; go_wp2_with fail
  rw [rounds_succ]; go_wp2_with fail
  have SW := db2 w1 q (.int .u8 n0) (.int .u8 n1) (by rw [d0]; rfl) (by rw [d1]; rfl)
  revert SW
  generalize ((w1.setCell ⟨q, 0, none⟩ (.int .u8 n0)).setCell ⟨q, 1, none⟩ (.int .u8 n1)) = w2
  rintro ⟨hsc, c0, c1⟩
  have c2 : w2.cell? ⟨q, 2, none⟩ = some (.int .u8 0) := by rw [(hsc.2 2 (by omega)), d2]
  have c3 : w2.cell? ⟨q, 3, none⟩ = some (.int .u8 0) := by rw [(hsc.2 3 (by omega)), d3]
  replace hsc := hsc.1
  rw [← hsc.kc d _ x3] at q0 q1 q2
  rw [← hsc.kf d _ x3] at f0 f1 f2
  have g1 : w2.cell? ⟨g, 321, none⟩ = some (.bool false) := by rw [hsc.kc g _ x5]; exact HI1.out.cell _ _ (ENC_strict _)
  rw [← hsc.frozen] at e0 e1 e2 e3
  rw [← hsc.kc g _ x5] at mp ep
  rw [← hsc.kc sb _ x1] at s2
  rw [← hsc.kc sb _ x1] at s3
  have HS := Lib.hid hsc
  clear hsc s0 m0 u0 t0 s1 m1 u1 t1 d0 d1 d2 d3
  obtain ⟨v, hv⟩ : ∃ p : Nat, p = n0 * 262144 + n1 * 4096 := ⟨_, rfl⟩
  have J1 : bits .or .u64 ((n0 : Int) * 262144) ((n1 : Int) * 4096) = (v : Int) := by
    rw [bits_join .u64 64 (by decide) wraps64' 18 _ _ (by omega) (by omega) (by omega) (by omega) (by omega) (by omega)]; omega
  have J2 : bits .or .u64 (v : Int) 0 = (v : Int) := by
    rw [bits_join .u64 64 (by decide) wraps64' 6 _ _ (by omega) (by omega) (by omega) (by omega) (by omega) (by omega)]; omega
  have J3 := J2
  have hv2 : v < 16777216 := by omega
  have HV : Hid ((n0 * 262144 + n1 * 4096) = v) := Lib.hid (by omega)
  clear hv
  rw [rounds_succ]; go_wp2_with fail
  refine wp_loop_rounds 1 ?_
  rw [rounds_succ]; go_wp2_with fail
  go_quiet (fail)
  go_wp2_with fail
  refine wp_loop_rounds 1 ?_
  rw [rounds_succ]; go_upto_region 40 with fail
  go_upto_region 52 with fail
  have E0 := u8v ((v : Int) / 65536) (v / 65536) (by omega)
  have E1 := u8v ((v : Int) / 256 % 256) (v / 256) (by omega)
  have E2 := u8v ((v : Int) % 256) v (by omega)
  rw [E0, E1, E2]
  have RW := rb3 (w2.drewN nq) q (.int .u8 (UInt8.ofNat (v / 65536)).toNat) (.int .u8 (UInt8.ofNat (v / 256)).toNat) (.int .u8 (UInt8.ofNat v).toNat) (by show (w2.cell? _).isSome = true; rw [c0]; rfl) (by show (w2.cell? _).isSome = true; rw [c1]; rfl) (by show (w2.cell? _).isSome = true; rw [c2]; rfl)
  revert RW
  generalize (((w2.drewN nq).setCell ⟨q, 2, none⟩ (.int .u8 (UInt8.ofNat v).toNat)).setCell ⟨q, 1, none⟩ (.int .u8 (UInt8.ofNat (v / 256)).toNat)).setCell ⟨q, 0, none⟩ (.int .u8 (UInt8.ofNat (v / 65536)).toNat) = w3
  rintro ⟨hsc', r0, r1, r2⟩
  have hsc : Sc q 0 w2 w3 := ((Sc.refl q 0 w2).drewN nq).trans hsc'
  clear hsc'
  rw [← hsc.kc d _ x3] at q0 q1 q2
  rw [← hsc.kf d _ x3] at f0 f1 f2
  rw [← hsc.kc g _ x5] at g1
  rw [← hsc.frozen] at e0 e1 e2 e3
  have HF := Lib.hid (fin2 (((Qp.of d o HB.out hdl).scq HS.out (Nat.le_of_eq HZ.out.symm) x3).scq hsc (Nat.le_of_eq HZ.out.symm) x3) (UInt8.ofNat (v / 65536)) (by rw [q0]; rfl))
  have HY : Hid ([UInt8.ofNat ((n0 * 262144 + n1 * 4096) / 65536)] = [UInt8.ofNat (v / 65536)]) := by rw [HV.out]; exact Lib.hid rfl
  clear hsc c0 c1 c2 c3 E0 E1 E2 J1 J2 J3
  generalize (UInt8.ofNat (v / 65536)) = y0 at *
  generalize (UInt8.ofNat (v / 256)) = y1 at *
  generalize (UInt8.ofNat v) = y2 at *
  go_wp2_with fail
  go_ret3
  rw [HY.out]
  exact ⟨by go_num, HF.out⟩

end Go.Proofs.YtedhgkddfgpfhaaDoor.Dd
