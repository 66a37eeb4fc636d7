/- The walks of indexFunc and of TrimLeftFunc over unicode.IsSpace, at a text that begins with spaces and tabs, behind which nothing or a printable byte stands. -/
import Derived.Test.YtbklpdcipfhdjaaGreatDoorP
import Derived.Test.YtbklpdcipfhdjaaGreatDoorShelf
import Derived.Laws.RangeString
import Derived.Lib.OthersKept
namespace Go.Proofs.YtbklpdcipfhdjaaGreatDoor.N
open Go.RowKit Go.Proofs.YtbklpdcipfhdjaaGreatDoor.A Go.Proofs.YtbklpdcipfhdjaaGreatDoor.D Go.Proofs.YtbklpdcipfhdjaaGreatDoor.F Go.Proofs.YtbklpdcipfhdjaaGreatDoor.P

theorem sp_blk {c : UInt8} (h : blk c = true) : c.toNat < 128 ∧ Lib.isSpaceL (c.toNat : Int) = true := by
  simp [blk] at h
  rcases h with rfl | rfl <;> decide
theorem sp_plain {c : UInt8} (h : plain c = true) : c.toNat < 128 ∧ Lib.isSpaceL (c.toNat : Int) = false := by
  simp [plain] at h
  refine ⟨by omega, ?_⟩
  unfold Lib.isSpaceL
  rw [decide_eq_false_iff_not]
  omega

set_option maxHeartbeats 1000000 in
set_option maxRecDepth 100000 in
theorem indexFunc_blk (s : ByteArray) (n : Nat) (w : World) (_hs : s.size ≤ 1099511627776) (hn : n ≤ s.size) (hb : ∀ i (h : i < s.size), i < n → blk s[i] = true) (hp : ∀ h : n < s.size, plain s[n] = true) :
    Calls Tryz.prog 79 #[.string s, .func (.func 52) #[] #[], .bool false] w fun e w' => e = .returned (.int .i64 (if n < s.size then (n : Int) else -1)) ∧ Below w.heap.size w w' := by
  have HB := Lib.hid hb
  have HP := Lib.hid hp
  clear hb hp
  go_enter Tryz.func79, Tryz.ntmps79
  go_wp2
  go_loopg [] s.size (fun gf wx => ∃ pos : Nat, pos ≤ n ∧ wx.heap[w.heap.size]? = some (.stringIter s pos) ∧ Below w.heap.size w wx ∧ s.size ≤ pos + gf)
  case atStart => exact ⟨0, Nat.zero_le _, World.iter_heap w s 0, (Below.refl _ w).alloc (Nat.le_refl _) _, by omega⟩
  case round =>
    obtain ⟨pos, hpn, hit, hbw, hfu⟩ := hrel
    by_cases hps : pos < s.size
    · obtain ⟨g', rfl⟩ : ∃ g', gk = g' + 1 := ⟨gk - 1, by omega⟩
      have hasc : s[pos].toNat < 128 := by
        by_cases h : pos < n
        · exact (sp_blk (HB.out pos hps h)).1
        · obtain rfl : pos = n := by omega
          exact (sp_plain (HP.out hps)).1
      have hnx : ∀ ty, (Instr.next (.pointer (some ⟨w.heap.size, 0, none⟩)) true ty).run Tryz.prog wr = .ok (.tuple #[.bool true, .int .i64 pos, .int .i32 (s[pos].toNat : Int)]) (wr.iterAt w.heap.size s (pos + 1)) := fun ty => by
        have := Lib.run_next_any_at (P := Tryz.prog) wr w.heap.size s pos ty hit hps
        rw [decode_ascii s pos hps hasc] at this
        exact this
      have hit2 := Lib.iterAt_heap wr w.heap.size s pos (pos + 1) hit
      have hbw2 := Lib.below_iterAt hbw (k := w.heap.size) (Nat.le_refl _) s (pos + 1)
      obtain ⟨W, hWd⟩ : ∃ W, wr.iterAt w.heap.size s (pos + 1) = W := ⟨_, rfl⟩
      rw [hWd] at hnx hit2 hbw2
      clear hWd
      by_cases h : pos < n
      · have hsp := (sp_blk (HB.out pos hps h)).2
        have hc := Tryz.unicode_IsSpace (s[pos].toNat : Int) W (by omega) (by omega)
        rw [hsp] at hc
        clear hsp
        go_wp2_with fail
        refine hc.mono ?_
        clear hc
        rintro e W' ⟨rfl, rfl⟩
        go_wp2_with fail
        go_roundg g'
        case measure => omega
        case rel => exact ⟨pos + 1, by omega, hit2, hbw2, by omega⟩
      · obtain rfl : pos = n := by omega
        have hsp := (sp_plain (HP.out hps)).2
        have hc := Tryz.unicode_IsSpace (s[pos].toNat : Int) W (by omega) (by omega)
        rw [hsp] at hc
        clear hsp
        go_wp2_with fail
        refine hc.mono ?_
        clear hc
        rintro e W' ⟨rfl, rfl⟩
        go_wp2_with fail
        go_ret
        exact ⟨rfl, hbw2⟩
    · have hnx : ∀ ty, (Instr.next (.pointer (some ⟨w.heap.size, 0, none⟩)) true ty).run Tryz.prog wr = _ := fun ty => Lib.run_next_end_at wr w.heap.size s pos ty hit hps
      go_wp2_with fail
      go_ret
      exact ⟨rfl, hbw⟩

set_option maxHeartbeats 1000000 in
set_option maxRecDepth 100000 in
/-- TrimLeftFunc with IsSpace leaves out the blanks ahead. -/
theorem trimLeft_any (s : ByteArray) (b r : List UInt8) (w : World) (hs : s.size ≤ 1099511627776) (hl : bl s = b ++ r) (hb : b.all blk = true) (hr : ∀ c, r.head? = some c → plain c = true) :
    Calls Tryz.prog 51 #[.string s, .func (.func 52) #[] #[]] w fun e w' => e = .returned (.string (tx r)) ∧ Below w.heap.size w w' := by
  have hsz : s.size = b.length + r.length := by rw [sz, hl, List.length_append]
  have hB : ∀ i (h : i < s.size), i < b.length → blk s[i] = true := by
    intro i h hi
    have e : s[i] = (bl s)[i]'(by rw [← sz]; exact h) := rfl
    rw [e]
    simp only [hl]
    rw [List.getElem_append_left hi]
    exact List.all_eq_true.1 hb _ (List.getElem_mem hi)
  have hP : ∀ h : b.length < s.size, plain s[b.length] = true := by
    intro h
    have e : s[b.length] = (bl s)[b.length]'(by rw [← sz]; exact h) := rfl
    rw [e]
    simp only [hl]
    rw [List.getElem_append_right (Nat.le_refl _)]
    apply hr
    simp only [Nat.sub_self]
    cases r with
    | nil => simp at hsz; omega
    | cons c r => rfl
  have hidx := indexFunc_blk s b.length w hs (by omega) hB hP
  have hext : tx r = s.extract b.length s.size := by
    apply eq_of_bl
    show r = _
    have := ext_all s b.length
    unfold bl
    rw [this]
    unfold bl at hl
    rw [hl, List.drop_left]
  by_cases h : b.length < s.size
  · rw [if_pos h] at hidx
    have HE := Lib.hid hext
    have HI := Lib.hid hidx
    clear hext hidx hB hP hr hb hl hsz
    generalize b.length = n at *
    go_enter Tryz.func51, Tryz.ntmps51
    go_wp2_with fail
    refine HI.out.mono ?_
    rintro e W ⟨rfl, hW⟩
    go_wp2_with fail
    go_ret
    rw [HE.out]
    exact ⟨rfl, hW⟩
  · rw [if_neg h] at hidx
    have hr0 : tx r = ⟨#[]⟩ := by
      have : r = [] := List.eq_nil_of_length_eq_zero (by omega)
      subst this; rfl
    have HE := Lib.hid hr0
    have HI := Lib.hid hidx
    clear hext hidx hB hP hr hb hl hsz hr0
    go_enter Tryz.func51, Tryz.ntmps51
    go_wp2_with fail
    refine HI.out.mono ?_
    rintro e W ⟨rfl, hW⟩
    go_wp2_with fail
    go_ret
    rw [HE.out]
    exact ⟨rfl, hW⟩

end Go.Proofs.YtbklpdcipfhdjaaGreatDoor.N
