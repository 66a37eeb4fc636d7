/- Contracts of a strings.Builder that the call itself has made: copyCheck, WriteString, WriteByte, Write and String: it holds what it held and what is written behind it, and nothing else turns but the builder's block and its row. -/
import Derived.Test.YtbklpdcipfhdjaaGreatDoorChecked
import Derived.WalkKit
import Derived.RowKit3
import Derived.KernelRfl
import Derived.WalkLawsBesides
import Derived.WalkSpells
import Derived.Deep.LoopGhost
import Derived.Lib.Hide
import Derived.Lib.Strings
import Derived.Lib.OthersKept
import Derived.Lib.FrozenHead2
import Derived.Outline
namespace Go.Proofs.YtbklpdcipfhdjaaGreatDoor.Bd
open Go.RowKit

/-- The builder in block b (one of the call's own, from B on) holds the bytes l. -/
def Bd (B b : Nat) (l : List UInt8) (w : World) : Prop := Lib.IsBuilderF 77 5 B b (Lib.byteCells l) w

/-- Block k is neither the builder's own nor its row. -/
def NotRow (b : Nat) (w : World) (k : Nat) : Prop := k ≠ b ∧ ∀ p v T fr, w.heap[b]? = some (.cells #[p, v] T fr) → v.ownBlock ≠ some k

/-- What a write to the builder in b leaves as it was. -/
structure Wr (B b : Nat) (w w' : World) : Prop where
  below : Below B w w'
  exact_ : ∀ k o, w.heap[k]? = some o → NotRow b w k → w'.heap[k]? = some o
  others : Lib.OthersKept 5 (some b) w w'

theorem Bd.lt {B b : Nat} {l : List UInt8} {w : World} (h : Bd B b l w) : b < w.heap.size := by
  rcases h with h | h
  · exact h.lt
  · exact h.lt
theorem Bd.ge {B b : Nat} {l : List UInt8} {w : World} (h : Bd B b l w) : B ≤ b := by
  rcases h with h | h
  · exact h.1
  · exact h.1
theorem Bd.alloc {B b : Nat} {l : List UInt8} {w : World} (h : Bd B b l w) (o : Obj) : Bd B b l (w.alloc o) := Lib.IsBuilderF.alloc h o
theorem Bd.drewN {B b : Nat} {l : List UInt8} {w : World} (h : Bd B b l w) (n : Nat) : Bd B b l (w.drewN n) := h

/-- A builder stays one where its block and the rows of bytes stand. -/
theorem Bd.kept {B b : Nat} {l : List UInt8} {w w' : World} (h : Bd B b l w) (hk : ∀ k o, w.heap[k]? = some o → (k = b ∨ ∃ c fz, o = Obj.cells c 5 fz) → w'.heap[k]? = some o) : Bd B b l w' := by
  have aux : ∀ p, Lib.BuilderAtF 77 5 B b p (Lib.byteCells l) w → Lib.BuilderAtF 77 5 B b p (Lib.byteCells l) w' := by
    intro p ⟨hB, v, hb, hown, hne⟩
    refine ⟨hB, v, hk _ _ hb (.inl rfl), ⟨hown.1, ?_⟩, hne⟩
    rcases hown.2 with hn | ⟨g, cap, cur, fz, hv, hg, hgg, rest⟩
    · exact .inl hn
    · exact .inr ⟨g, cap, cur, fz, hv, hg, hk _ _ hgg (.inr ⟨_, _, rfl⟩), rest⟩
  rcases h with h | h
  · exact .inl (aux _ h)
  · exact .inr (aux _ h)

theorem fresh (w : World) : Bd w.heap.size w.heap.size [] (w.alloc (.cells #[.pointer none, .slice none 0 0] 77)) :=
  Lib.IsBuilderF.of (Lib.fresh_isBuilder 77 5 w)

theorem sizeB : (Tryz.prog.info? 77).map (·.size) = some 2 := by kernel_rfl
theorem liesB : liesAt Tryz.prog Tryz.prog.depth 77 (2 / Tryz.prog.cellsOf 77) 0 77 1 = true := by kernel_rfl
theorem info8 : (Tryz.prog.info? 5).map (fun i => (i.zero, i.size, i.bytes)) = some (some (.int .u8 0), 1, 1) := by kernel_rfl

set_option maxHeartbeats 1000000 in
set_option maxRecDepth 100000 in
theorem copyCheck_used (b : Nat) (w : World) (h0 : w.cell? ⟨b, 0, none⟩ = some (.pointer (some ⟨b, 0, none⟩))) :
    Calls Tryz.prog 83 #[.pointer (some ⟨b, 0, none⟩)] w fun e w' => e = .returned (.tuple #[]) ∧ w = w' := by
  obtain ⟨j, hj, _⟩ := Option.map_eq_some_iff.1 sizeB
  go_enter Tryz.func83, Tryz.ntmps83
  go_wp2
  rw [Lib.run_neq_ptr_same w _ Tryz.underlying75 hj]
  go_wp2
  go_end0
  exact ⟨rfl, rfl⟩

set_option maxHeartbeats 1000000 in
set_option maxRecDepth 100000 in
theorem copyCheck_fresh (b : Nat) (w : World) (h0 : w.cell? ⟨b, 0, none⟩ = some (.pointer none)) (hsh : w.shape? b = some (77, 2)) (hfz : w.frozen? ⟨b, 0, none⟩ = false) :
    Calls Tryz.prog 83 #[.pointer (some ⟨b, 0, none⟩)] w fun e w' => e = .returned (.tuple #[]) ∧ w.setCell ⟨b, 0, none⟩ (.pointer (some ⟨b, 0, none⟩)) = w' := by
  obtain ⟨j, hj, hjs⟩ := Option.map_eq_some_iff.1 sizeB
  go_enter Tryz.func83, Tryz.ntmps83
  go_wp2
  rw [Lib.run_to_unsafe w ⟨b, 0, none⟩ Tryz.underlying75 Tryz.underlying137 hj (by rw [hjs]; decide) hsh (Nat.zero_lt_succ 1)]
  simp only [Result.andThen]
  rw [Oper.upon_value]
  go_wp2
  rw [run_callFunc_extern Tryz.func113 (by kernel_rfl) (by kernel_rfl) (by kernel_rfl) (e := Extern.AbiNoEscape.same) (by kernel_rfl)]
  rw [Lib.run_noEscape]
  simp only [Result.andThen]
  rw [Oper.upon_value]
  go_wp2
  rw [Lib.run_from_unsafe w ⟨b, 0, none⟩ Tryz.underlying137 Tryz.underlying75 hj hsh liesB]
  simp only [Result.andThen]
  rw [Oper.upon_value]
  go_wp2
  go_end0
  exact ⟨rfl, rfl⟩

/-- What 'append' and the store of the new slice leave. -/
theorem wr_of {B b : Nat} {p v v' : Value} {n : Nat} {xs : List Value} {w w1 w2 : World} (hB : B ≤ b) (hBw : B ≤ w.heap.size) (hb : w.heap[b]? = some (.cells #[p, v] 77 (0, 0))) (hown : w.ownsRowF B 5 1 v n xs) (hs : w.heap.size ≤ w1.heap.size)
    (h1 : Below B w w1) (h2 : ∀ k, k < w.heap.size → k ≠ b → w1.heap[k]? = w.heap[k]?) (hg : w1.grownBy w2 v.ownBlock) : Wr B b w (w2.setCell ⟨b, 1, none⟩ v') := by
  have hex : ∀ k o, w.heap[k]? = some o → NotRow b w k → (w2.setCell ⟨b, 1, none⟩ v').heap[k]? = some o := by
    intro k o hk ⟨hkb, hr⟩
    have hlt : k < w.heap.size := (Array.getElem?_eq_some_iff.1 hk).1
    rw [Below.heap_setCell _ _ _ _ hkb, hg.block k (by omega) (fun e => hr _ _ _ _ hb e.symm), h2 k hlt hkb]
    exact hk
  refine ⟨(h1.grown hg (by omega) (fun k hk => (hown.lt k hk).1)).setCell (p := ⟨b, 1, none⟩) hB _, hex, ?_⟩
  intro k o hk hkb ho
  refine hex k o hk ⟨fun e => hkb (by rw [e]), ?_⟩
  intro p' v'' T fr hb' e
  rw [hb] at hb'
  simp only [Option.some.injEq, Obj.cells.injEq, Array.mk.injEq, List.cons.injEq] at hb'
  obtain ⟨⟨_, rfl, _⟩, _⟩ := hb'
  obtain ⟨c, fz, hc⟩ := Lib.ownsRowF_kind hown k e
  rw [hk] at hc
  exact ho c fz (Option.some.inj hc)

theorem Bd.open_ {B b : Nat} {l : List UInt8} {w : World} (h : Bd B b l w) : ∃ p v, (p = .pointer none ∨ p = .pointer (some ⟨b, 0, none⟩)) ∧ B ≤ b ∧ w.heap[b]? = some (.cells #[p, v] 77 (0, 0)) ∧ w.ownsRowF B 5 1 v l.length (Lib.byteCells l) ∧ v.ownBlock ≠ some b := by
  rcases h with ⟨hB, v, hb, hown, hne⟩ | ⟨hB, v, hb, hown, hne⟩
  · exact ⟨_, v, .inl rfl, hB, hb, by simpa [Lib.byteCells_length] using hown, hne⟩
  · exact ⟨_, v, .inr rfl, hB, hb, by simpa [Lib.byteCells_length] using hown, hne⟩

set_option maxHeartbeats 1000000 in
/-- copyCheck at whatever builder: behind it the builder is used. -/
theorem copyCheck_any (B b : Nat) (p v : Value) (w : World) (hB : B ≤ b) (hp : p = .pointer none ∨ p = .pointer (some ⟨b, 0, none⟩)) (hb : w.heap[b]? = some (.cells #[p, v] 77 (0, 0))) :
    Calls Tryz.prog 83 #[.pointer (some ⟨b, 0, none⟩)] w fun e w' => e = .returned (.tuple #[]) ∧ w'.heap[b]? = some (.cells #[.pointer (some ⟨b, 0, none⟩), v] 77 (0, 0)) ∧ Below B w w' ∧ w.grownBy w' (some b) ∧ w'.heap.size = w.heap.size := by
  have c0 : w.cell? ⟨b, 0, none⟩ = some p := by rw [Lib.cell_of_heap hb]; rfl
  rcases hp with rfl | rfl
  · refine (copyCheck_fresh b w c0 (by simp [World.shape?, hb]) (Lib.frozen_of_heap hb 0)).mono ?_
    rintro e w' ⟨rfl, rfl⟩
    have hg : w.grownBy (w.setCell ⟨b, 0, none⟩ (.pointer (some ⟨b, 0, none⟩))) (some b) := ⟨rfl, rfl, rfl, by simp [World.setCell], fun k _ hk => Below.heap_setCell _ _ _ _ (fun e => hk (by simp [e]))⟩
    exact ⟨rfl, by simp [World.setCell, Array.getElem?_modify, hb], (Below.refl B w).setCell (p := ⟨b, 0, none⟩) hB _, hg, by simp [World.setCell]⟩
  · refine (copyCheck_used b w c0).mono ?_
    rintro e w' ⟨rfl, rfl⟩
    exact ⟨rfl, hb, Below.refl B _, ⟨rfl, rfl, rfl, Nat.le_refl _, fun _ _ _ => rfl⟩, rfl⟩

theorem shape_of {B : Nat} {v' : Value} {n : Nat} {xs : List Value} {w2 : World} (hown' : w2.ownsRowF B 5 1 v' n xs) : ∃ ao n' cap, v' = .slice ao n' cap := by
  rcases hown'.2 with ⟨hv, _⟩ | ⟨g, cap, cur, fz, hv, _⟩
  · exact ⟨_, _, _, hv⟩
  · exact ⟨_, _, _, hv⟩

theorem bd_put {B b : Nat} {l k : List UInt8} {v v' : Value} {w2 : World} (hB : B ≤ b) (hb2 : w2.heap[b]? = some (.cells #[.pointer (some ⟨b, 0, none⟩), v] 77 (0, 0))) (hown' : w2.ownsRowF B 5 1 v' (l.length + k.length) (Lib.byteCells l ++ Lib.byteCells k)) :
    Bd B b (l ++ k) (w2.setCell ⟨b, 1, none⟩ v') := by
  rw [Bd, Lib.byteCells_append]
  exact .inr (Lib.BuilderAtF.put (T := 77) (e := 5) hB hb2 (bs' := Lib.byteCells l ++ Lib.byteCells k) (by simpa [Lib.byteCells_length] using hown') (by decide))

set_option maxHeartbeats 2000000 in
set_option maxRecDepth 100000 in
theorem WriteString_any (B b : Nat) (l : List UInt8) (s : ByteArray) (w : World) (h : Bd B b l w) (hlen : l.length + s.size ≤ 140737488355328) (hBw : B ≤ w.heap.size) :
    Calls Tryz.prog 57 #[.pointer (some ⟨b, 0, none⟩), .string s] w fun e w' => e = .returned (.tuple #[.int .i64 s.size, .nilIface]) ∧ Bd B b (l ++ s.data.toList) w' ∧ Wr B b w w' := by
  obtain ⟨i0, hi, hz0, hz1, hz2⟩ := info_parts info8
  obtain ⟨p, v, hp, hB, hb0, hown0, hne⟩ := h.open_
  have HO := Lib.hid hown0
  have HB := Lib.hid hb0
  go_enter Tryz.func57, Tryz.ntmps57
  go_wp2_with (go_at_call 83; refine (copyCheck_any B b p v _ hB hp hb0).mono ?_)
  rintro e w1 ⟨rfl, hbk, hb1, hk1, hs1⟩
  clear hown0 hb0 hp
  have hown : w1.ownsRowF B 5 1 v l.length (Lib.byteCells l) := HO.out.kept hk1 (.inr hne)
  have c0 : w1.cell? ⟨b, 0, none⟩ = some (.pointer (some ⟨b, 0, none⟩)) := by rw [Lib.cell_of_heap hbk]; rfl
  have c1 : w1.cell? ⟨b, 1, none⟩ = some v := by rw [Lib.cell_of_heap hbk]; rfl
  have HS1 := Lib.hid hs1
  clear hs1
  go_wp2_with (at_builtin; refine Lib.wpList_append_own_stringF _ rfl _ _ 59 9 rfl B 5 i0 Tryz.underlying59 Tryz.underlying9 hi hz0 hz1 hz2 _ _ _ rfl hown s rfl ?c3 ?c4 ?c5 ?_)
  case c3 => unfold maxLen; omega
  case c4 => omega
  case c5 => rw [HS1.out]; exact hBw
  intro v' w2 hown' hgrow _
  have hlt : b < w1.heap.size := (Array.getElem?_eq_some_iff.1 hbk).1
  have hb2 : w2.heap[b]? = some (.cells #[.pointer (some ⟨b, 0, none⟩), v] 77 (0, 0)) := by
    rw [hgrow.block b hlt (fun e => hne e.symm)]
    exact hbk
  have d0 : w2.cell? ⟨b, 0, none⟩ = some (.pointer (some ⟨b, 0, none⟩)) := by rw [Lib.cell_of_heap hb2]; rfl
  have d1 : w2.cell? ⟨b, 1, none⟩ = some v := by rw [Lib.cell_of_heap hb2]; rfl
  have f1 : w2.frozen? ⟨b, 1, none⟩ = false := Lib.frozen_of_heap hb2 1
  obtain ⟨ao, n', cap, rfl⟩ := shape_of hown'
  go_wp2
  go_ret2
  refine ⟨rfl, ?_, wr_of hB hBw HB.out HO.out (by rw [HS1.out]; exact Nat.le_refl _) hb1 (fun k hk hkb => hk1.block k hk (by simpa using hkb)) hgrow⟩
  rw [Lib.strCells_eq] at hown'
  exact bd_put hB hb2 (k := s.data.toList) (by simpa using hown')

set_option maxHeartbeats 2000000 in
set_option maxRecDepth 100000 in
theorem WriteByte_any (B b : Nat) (l : List UInt8) (c : Nat) (hc : c < 256) (w : World) (h : Bd B b l w) (hlen : l.length + 1 ≤ 140737488355328) (hBw : B ≤ w.heap.size) :
    Calls Tryz.prog 66 #[.pointer (some ⟨b, 0, none⟩), .int .u8 c] w fun e w' => e = .returned .nilIface ∧ Bd B b (l ++ [UInt8.ofNat c]) w' ∧ Wr B b w w' := by
  obtain ⟨i0, hi, hz0, hz1, hz2⟩ := info_parts info8
  obtain ⟨p, v, hp, hB, hb0, hown0, hne⟩ := h.open_
  have HO := Lib.hid hown0
  have HB := Lib.hid hb0
  go_enter Tryz.func66, Tryz.ntmps66
  go_wp2_with (go_at_call 83; refine (copyCheck_any B b p v _ hB hp hb0).mono ?_)
  rintro e w1 ⟨rfl, hbk, hb1, hk1, hs1⟩
  clear hown0 hb0 hp
  have hown : w1.ownsRowF B 5 1 v l.length (Lib.byteCells l) := HO.out.kept hk1 (.inr hne)
  have c0 : w1.cell? ⟨b, 0, none⟩ = some (.pointer (some ⟨b, 0, none⟩)) := by rw [Lib.cell_of_heap hbk]; rfl
  have c1 : w1.cell? ⟨b, 1, none⟩ = some v := by rw [Lib.cell_of_heap hbk]; rfl
  have HS1 := Lib.hid hs1
  clear hs1
  go_wp2_with (at_builtin; refine wpList_append_ownF _ rfl _ _ 59 rfl B 5 i0 (.int .u8 0) 1 1 Tryz.underlying59 hi hz0 hz1 hz2 rfl (by decide) _ _ _ rfl (hown.alloc _) ⟨w1.heap.size, 0, none⟩ 1 1 [.int .u8 c] rfl rfl ?c1 ?c2 ?c3 ?c4 ?c5 ?_)
  case c1 =>
    intro j u hj
    match j, hj with
    | 0, hj => simp at hj; subst hj; simp [Addr.add]
  case c2 => intro u hu; simp at hu; subst hu; rfl
  case c3 => unfold maxLen; omega
  case c4 => omega
  case c5 => have := HS1.out; simp; omega
  intro v' w2 hown' hgrow _
  have hlt : b < w1.heap.size := (Array.getElem?_eq_some_iff.1 hbk).1
  have hb2 : w2.heap[b]? = some (.cells #[.pointer (some ⟨b, 0, none⟩), v] 77 (0, 0)) := by
    rw [hgrow.block b (by simp; omega) (fun e => hne e.symm), Lib.alloc_old w1 _ b hlt]
    exact hbk
  have d0 : w2.cell? ⟨b, 0, none⟩ = some (.pointer (some ⟨b, 0, none⟩)) := by rw [Lib.cell_of_heap hb2]; rfl
  have d1 : w2.cell? ⟨b, 1, none⟩ = some v := by rw [Lib.cell_of_heap hb2]; rfl
  have f1 : w2.frozen? ⟨b, 1, none⟩ = false := Lib.frozen_of_heap hb2 1
  obtain ⟨ao, n', cap, rfl⟩ := shape_of hown'
  go_wp2
  go_ret
  refine ⟨rfl, ?_, wr_of hB hBw HB.out HO.out (by have := HS1.out; simp; omega) (hb1.alloc (by have := HS1.out; omega) _) (fun k hk hkb => (Below.heap_alloc _ _ _ (by have := HS1.out; omega)).trans (hk1.block k hk (by simpa using hkb))) hgrow⟩
  refine bd_put hB hb2 (k := [UInt8.ofNat c]) ?_
  have e1 : Lib.byteCells [UInt8.ofNat c] = [Value.int .u8 c] := by
    simp only [Lib.byteCells, List.map_cons, List.map_nil, UInt8.toNat_ofNat']
    rw [Nat.mod_eq_of_lt (by omega)]
  rw [e1]; exact hown'

end Go.Proofs.YtbklpdcipfhdjaaGreatDoor.Bd
