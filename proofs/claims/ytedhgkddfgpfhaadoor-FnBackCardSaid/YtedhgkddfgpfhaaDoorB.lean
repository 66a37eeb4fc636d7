/- Walks of functions that range over a string: needsEncoding, and hasNonWhitespace of a text of one space. -/
import Derived.Test.YtedhgkddfgpfhaaDoorA
import Derived.Lib.OthersKept
namespace Go.Proofs.YtedhgkddfgpfhaaDoor.B
open Go.RowKit Go.Proofs.YtedhgkddfgpfhaaDoor.A

def pr (s : ByteArray) (k : Nat) : Prop := ∀ x ∈ s.data.toList.take k, okb x = true

theorem pr_zero (s : ByteArray) : pr s 0 := by simp [pr]
theorem take_succ (s : ByteArray) (k : Nat) (h : k < s.size) : s.data.toList.take (k + 1) = s.data.toList.take k ++ [s[k]] := by
  rw [List.take_succ_eq_append_getElem (by simpa using h)]; rfl
theorem pr_succ (s : ByteArray) (k : Nat) (h : k < s.size) (hp : pr s k) (g : okb s[k] = true) : pr s (k + 1) := by
  intro x hx; rw [take_succ s k h] at hx; rcases List.mem_append.1 hx with h | h
  · exact hp x h
  · simp at h; rw [h]; exact g
theorem pr_bad (s : ByteArray) (k : Nat) (h : k < s.size) (g : okb s[k] = false) : printB s = false := by
  unfold printB; rw [List.all_eq_false]; exact ⟨_, List.mem_of_getElem (getb s k h), by simp [g]⟩
theorem pr_end (s : ByteArray) (k : Nat) (h : ¬ k < s.size) (hp : pr s k) : printB s = true := by
  unfold printB; rw [List.all_eq_true]; intro x hx; exact hp x (by rwa [List.take_of_length_le (by simp; omega)])

theorem iterPos_of {w : World} {k : Nat} {s : ByteArray} {pos : Nat} (h : w.heap[k]? = some (.stringIter s pos)) : w.iterPos k = pos := by simp [World.iterPos, h]

set_option maxHeartbeats 1000000 in
set_option maxRecDepth 100000 in
theorem needs_any (s : ByteArray) (w : World) :
    Calls Tryd.prog 20 #[.string s] w fun e w' => e = .returned (.bool (!printB s)) ∧ Below w.heap.size w w' := by
  go_enter Tryd.func20, Tryd.ntmps20
  go_wp2
  go_loopw [] (fun wr => ∃ pos : Nat, wr.heap[w.heap.size]? = some (.stringIter s pos) ∧ Below w.heap.size w wr ∧ Hid (pr s pos)) (fun wr => s.size - wr.iterPos w.heap.size)
  case atStart =>
    exact ⟨0, World.iter_heap w s 0, (Below.refl _ w).alloc (Nat.le_refl _) _, Lib.hid (pr_zero s)⟩
  case round =>
    obtain ⟨pos, hit, hbw, H⟩ := hrel
    by_cases hp : pos < s.size
    · have bd := s[pos].toNat_lt
      have hit2 := fun p => Lib.iterAt_heap wr w.heap.size s pos p hit
      have hbw2 := fun p => Lib.below_iterAt hbw (k := w.heap.size) (Nat.le_refl _) s p
      have Hit2 := Lib.hid hit2
      have Hbw2 := Lib.hid hbw2
      have Hip := Lib.hid (iterPos_of hit)
      clear hit2 hbw2
      by_cases ha : s[pos].toNat < 128
      · have hnx : ∀ ty, (Instr.next (.pointer (some ⟨w.heap.size, 0, none⟩)) true ty).run Tryd.prog wr = _ := fun ty => Lib.run_next_ascii_at wr w.heap.size s pos ty hit hp ha
        clear ha
        by_cases h1 : (s[pos].toNat : Int) < 32
        · have b1 : decide ((s[pos].toNat : Int) < 32) = true := decide_eq_true h1
          by_cases h9 : (s[pos].toNat : Int) = 9
          · have b9 : ((s[pos].toNat : Int) != 9) = false := by simp [h9]
            have G := Lib.hid (pr_succ s pos hp H.out (by unfold okb; simp; omega))
            clear h9
            go_wp2
            go_roundw
            case rel => exact ⟨pos + 1, Hit2.out _, Hbw2.out _, G⟩
            case measure => rw [iterPos_of (Hit2.out _), Hip.out]; omega
          · have b9 : ((s[pos].toNat : Int) != 9) = true := bne_iff_ne.mpr h9
            have G := Lib.hid (pr_bad s pos hp (by unfold okb; simp; omega))
            clear h9
            go_wp2
            go_ret
            exact ⟨ret_bool (by rw [G.out]; rfl), Hbw2.out _⟩
        · have b1 : decide ((s[pos].toNat : Int) < 32) = false := decide_eq_false h1
          by_cases h2 : (126 : Int) < s[pos].toNat
          · have b2 : decide ((126 : Int) < s[pos].toNat) = true := decide_eq_true h2
            have b9 : ((s[pos].toNat : Int) != 9) = true := bne_iff_ne.mpr (by omega)
            have G := Lib.hid (pr_bad s pos hp (by unfold okb; simp; omega))
            go_wp2
            go_ret
            exact ⟨ret_bool (by rw [G.out]; rfl), Hbw2.out _⟩
          · have b2 : decide ((126 : Int) < s[pos].toNat) = false := decide_eq_false h2
            have G := Lib.hid (pr_succ s pos hp H.out (by unfold okb; simp; omega))
            go_wp2
            go_roundw
            case rel => exact ⟨pos + 1, Hit2.out _, Hbw2.out _, G⟩
            case measure => rw [iterPos_of (Hit2.out _), Hip.out]; omega
      · have hnx : ∀ ty, (Instr.next (.pointer (some ⟨w.heap.size, 0, none⟩)) true ty).run Tryd.prog wr = _ := fun ty => Lib.run_next_any_at wr w.heap.size s pos ty hit hp
        have hd := decode_high s pos hp (by omega)
        have G := Lib.hid (pr_bad s pos hp (by unfold okb; simp; omega))
        clear ha
        generalize (Utf8.decode s pos).1 = r at *
        generalize (Utf8.decode s pos).2 = n at *
        have b1 : decide ((r : Int) < 32) = false := decide_eq_false (by omega)
        have b2 : decide ((126 : Int) < r) = true := decide_eq_true (by omega)
        have b9 : ((r : Int) != 9) = true := bne_iff_ne.mpr (by omega)
        go_wp2
        go_ret
        exact ⟨ret_bool (by rw [G.out]; rfl), Hbw2.out _⟩
    · have hnx : ∀ ty, (Instr.next (.pointer (some ⟨w.heap.size, 0, none⟩)) true ty).run Tryd.prog wr = _ := fun ty => Lib.run_next_end_at wr w.heap.size s pos ty hit hp
      have G := Lib.hid (pr_end s pos hp H.out)
      go_wp2
      go_ret
      exact ⟨ret_bool (by rw [G.out]; rfl), hbw⟩

end Go.Proofs.YtedhgkddfgpfhaaDoor.B
