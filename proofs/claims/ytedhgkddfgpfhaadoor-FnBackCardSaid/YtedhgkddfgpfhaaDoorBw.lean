/- The contract of a strings.Builder's Write, of bytes that lie outside the builder. -/
import Derived.Test.YtedhgkddfgpfhaaDoorBd
namespace Go.Proofs.YtedhgkddfgpfhaaDoor.Bd
open Go.RowKit

set_option maxHeartbeats 2000000 in
set_option maxRecDepth 100000 in
/-- Write of the bytes k, which lie at ad, outside the builder's block. -/
theorem Write_any (B b : Nat) (l k : List UInt8) (ad : Addr) (n cap : Nat) (w : World) (h : Bd B b l w) (hn : k.length = n) (hcells : ∀ j u, (Lib.byteCells k)[j]? = some u → w.cell? (ad.add j) = some u) (hadb : ad.block ≠ b) (hlen : l.length + n ≤ 140737488355328) (hBw : B ≤ w.heap.size) :
    Calls Tryd.prog 27 #[.pointer (some ⟨b, 0, none⟩), .slice (some ad) n cap] w fun e w' => e = .returned (.tuple #[.int .i64 n, .nilIface]) ∧ Bd B b (l ++ k) w' ∧ Wr B b w w' := by
  subst hn
  obtain ⟨i0, hi, hz0, hz1, hz2⟩ := info_parts info8
  obtain ⟨p, v, hp, hB, hb0, hown0, hne⟩ := h.open_
  have HO := Lib.hid hown0
  have HB := Lib.hid hb0
  have HC := Lib.hid hcells
  clear hcells
  go_enter Tryd.func27, Tryd.ntmps27
  go_wp2_with (go_at_call 22; refine (copyCheck_any B b p v _ hB hp hb0).mono ?_)
  rintro e w1 ⟨rfl, hbk, hb1, hk1, hs1⟩
  clear hown0 hb0 hp
  have hown : w1.ownsRowF B 5 1 v l.length (Lib.byteCells l) := HO.out.kept hk1 (.inr hne)
  have c0 : w1.cell? ⟨b, 0, none⟩ = some (.pointer (some ⟨b, 0, none⟩)) := by rw [Lib.cell_of_heap hbk]; rfl
  have c1 : w1.cell? ⟨b, 1, none⟩ = some v := by rw [Lib.cell_of_heap hbk]; rfl
  have HS1 := Lib.hid hs1
  clear hs1
  have HC1 : Hid (∀ j u, (Lib.byteCells k)[j]? = some u → w1.cell? (ad.add j) = some u) := by
    apply Lib.hid
    intro j u hj
    have hc := HC.out j u hj
    have hbl : (ad.add j).block = ad.block := by unfold Addr.add; split <;> rfl
    rw [← hc]
    refine World.cell?_of_block (w := w) ?_
    rw [hbl]
    rcases Nat.lt_or_ge ad.block w.heap.size with hlt | hge
    · exact hk1.block _ hlt (by simpa using hadb)
    · rw [Array.getElem?_eq_none hge, Array.getElem?_eq_none (by rw [HS1.out]; exact hge)]
  go_wp2_with (at_builtin; refine wpList_append_ownF _ rfl _ _ 46 rfl B 5 i0 (.int .u8 0) 1 1 Tryd.underlying46 hi hz0 hz1 hz2 rfl (by decide) _ _ _ rfl hown ad k.length cap (Lib.byteCells k) rfl ?c0 HC1.out ?c2 ?c3 ?c4 ?c5 ?_)
  case c0 => rw [Lib.byteCells_length, Nat.mul_one]
  case c2 => intro u hu; unfold Lib.byteCells at hu; simp only [List.mem_map] at hu; obtain ⟨x, _, rfl⟩ := hu; rfl
  case c3 => unfold maxLen; omega
  case c4 => omega
  case c5 => rw [HS1.out]; exact hBw
  intro v' w2 hown' hgrow _
  have hlt : b < w1.heap.size := (Array.getElem?_eq_some_iff.1 hbk).1
  have hb2 : w2.heap[b]? = some (.cells #[.pointer (some ⟨b, 0, none⟩), v] 48 (0, 0)) := by
    rw [hgrow.block b hlt (fun e => hne e.symm)]
    exact hbk
  have d0 : w2.cell? ⟨b, 0, none⟩ = some (.pointer (some ⟨b, 0, none⟩)) := by rw [Lib.cell_of_heap hb2]; rfl
  have d1 : w2.cell? ⟨b, 1, none⟩ = some v := by rw [Lib.cell_of_heap hb2]; rfl
  have f1 : w2.frozen? ⟨b, 1, none⟩ = false := Lib.frozen_of_heap hb2 1
  obtain ⟨ao, n', cap', rfl⟩ := shape_of hown'
  go_wp2
  go_ret2
  refine ⟨rfl, bd_put hB hb2 hown', wr_of hB hBw HB.out HO.out (by rw [HS1.out]; exact Nat.le_refl _) hb1 (fun k hk hkb => hk1.block k hk (by simpa using hkb)) hgrow⟩

end Go.Proofs.YtedhgkddfgpfhaaDoor.Bd
