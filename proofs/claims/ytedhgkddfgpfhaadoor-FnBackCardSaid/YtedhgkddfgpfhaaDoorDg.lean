/- The walks of hasNonWhitespace at one space, and of convert at UTF-8. -/
import Derived.Test.YtedhgkddfgpfhaaDoorDq
namespace Go.Proofs.YtedhgkddfgpfhaaDoor.Dg
open Go.RowKit Go.Proofs.YtedhgkddfgpfhaaDoor.A Go.Proofs.YtedhgkddfgpfhaaDoor.B Go.Proofs.YtedhgkddfgpfhaaDoor.Bd Go.Proofs.YtedhgkddfgpfhaaDoor.Ew Go.Proofs.YtedhgkddfgpfhaaDoor.E

set_option maxHeartbeats 1000000 in
set_option maxRecDepth 100000 in
theorem nonWhite_any (s : ByteArray) (w : World) (hs : s.data.toList = [32]) :
    Calls Tryd.prog 17 #[.string s] w fun e w' => e = .returned (.bool false) ∧ Below w.heap.size w w' := by
  have hsz : s.size = 1 := by have := congrArg List.length hs; simpa using this
  have h32 : ∀ (p : Nat) (h : p < s.size), s[p].toNat = 32 := by
    intro p h
    obtain rfl : p = 0 := by omega
    have h1 : s.data.toList[0]? = some 32 := by rw [hs]; rfl
    have h2 : s.data.toList[0]? = some s[0] := List.getElem?_eq_getElem (by simp; omega)
    rw [h1] at h2
    rw [← Option.some.inj h2]; rfl
  have H32 := Lib.hid h32
  clear hs h32
  go_enter Tryd.func17, Tryd.ntmps17
  go_wp2
  go_loopw [] (fun wr => ∃ pos : Nat, wr.heap[w.heap.size]? = some (.stringIter s pos) ∧ Below w.heap.size w wr) (fun wr => s.size - wr.iterPos w.heap.size)
  case atStart =>
    exact ⟨0, World.iter_heap w s 0, (Below.refl _ w).alloc (Nat.le_refl _) _⟩
  case round =>
    obtain ⟨pos, hit, hbw⟩ := hrel
    by_cases hp : pos < s.size
    · have h2 := H32.out pos hp
      have hit2 := fun p => Lib.iterAt_heap wr w.heap.size s pos p hit
      have hbw2 := fun p => Lib.below_iterAt hbw (k := w.heap.size) (Nat.le_refl _) s p
      have Hit2 := Lib.hid hit2
      have Hbw2 := Lib.hid hbw2
      have Hip := Lib.hid (iterPos_of hit)
      clear hit2 hbw2
      have hnx : ∀ ty, (Instr.next (.pointer (some ⟨w.heap.size, 0, none⟩)) true ty).run Tryd.prog wr = _ := fun ty => Lib.run_next_ascii_at wr w.heap.size s pos ty hit hp (by omega)
      have b1 : ((s[pos].toNat : Int) == 32) = true := by rw [h2]; rfl
      clear h2
      go_wp2
      go_roundw
      case rel => exact ⟨pos + 1, Hit2.out _, Hbw2.out _⟩
      case measure => rw [iterPos_of (Hit2.out _), Hip.out]; omega
    · have hnx : ∀ ty, (Instr.next (.pointer (some ⟨w.heap.size, 0, none⟩)) true ty).run Tryd.prog wr = _ := fun ty => Lib.run_next_end_at wr w.heap.size s pos ty hit hp
      go_wp2
      go_ret
      exact ⟨rfl, hbw⟩

set_option maxHeartbeats 4000000 in
set_option maxRecDepth 100000 in
theorem convert_any (pd : Value) (B b g n cap : Nat) (l d : List UInt8) (cs : ByteArray) (w : World) (h : Bd B b l w) (hcs : cs.data.toList = [117, 116, 102, 45, 56]) (hd : d.length = n) (hP : Pc g 0 d w) (hgb : g ≠ b) (hlen : l.length + n ≤ 140737488355328) (hBw : B ≤ w.heap.size) :
    Calls Tryd.prog 18 #[pd, .pointer (some ⟨b, 0, none⟩), .string cs, .slice (some ⟨g, 0, none⟩) n cap] w fun r w' => r = .returned .nilIface ∧ Bd B b (l ++ d) w' ∧ Below B w w' := by
  have hsz : cs.size = 5 := by have := congrArg List.length hcs; simpa using this
  have HS := Lib.hid hsz
  have HC := Lib.hid hcs
  have HB := Lib.hid h
  have HP := Lib.hid hP
  have HD := Lib.hid hd
  clear hsz hcs h hP hd
  go_enter Tryd.func18, Tryd.ntmps18
  go_wp2_with fail
  have hT : Calls Tryd.prog 26 #[.string ⟨#[117, 116, 102, 45, 56]⟩, .string cs] w fun e w' => e = .returned (.bool true) ∧ w = w' := by
    refine (Tryd.strings_EqualFold ⟨#[117, 116, 102, 45, 56]⟩ cs w (by decide) (ascii_of _ (by decide)) (by rw [HC.out]; exact ascii_of _ (by decide))).mono ?_
    rintro e w' ⟨rfl, rfl⟩
    rw [HC.out]
    exact ⟨ret_b (by decide), rfl⟩
  refine hT.mono ?_
  clear hT
  rintro r w1 ⟨rfl, rfl⟩
  go_wp2_with fail
  refine (Write_any B b l d ⟨g, 0, none⟩ n cap w HB.out HD.out ?_ hgb hlen hBw).mono ?_
  · intro j u hj
    have hadd : (⟨g, 0, none⟩ : Addr).add j = ⟨g, j, none⟩ := by unfold Addr.add; split <;> simp_all
    rw [hadd]
    unfold Lib.byteCells at hj
    rw [List.getElem?_map] at hj
    cases hx : d[j]? with
    | none => rw [hx] at hj; cases hj
    | some x =>
      rw [hx] at hj; obtain rfl := Option.some.inj hj
      have := HP.out j x hx
      rwa [Nat.zero_add] at this
  rintro r w2 ⟨rfl, h1, h2⟩
  have HF := Lib.hid (And.intro h1 h2.below)
  clear h1 h2
  go_wp2_with fail
  go_ret
  exact ⟨rfl, HF.out⟩

end Go.Proofs.YtedhgkddfgpfhaaDoor.Dg
