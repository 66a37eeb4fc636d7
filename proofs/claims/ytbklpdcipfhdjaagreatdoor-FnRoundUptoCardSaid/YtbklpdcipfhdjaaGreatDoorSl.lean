/- Lists of texts: the walks of zzFits7, Brief and Join. -/
import Derived.Test.YtbklpdcipfhdjaaGreatDoorR
namespace Go.Proofs.YtbklpdcipfhdjaaGreatDoor.Sl
open Go.RowKit Go.Proofs.YtbklpdcipfhdjaaGreatDoor.A Go.Proofs.YtbklpdcipfhdjaaGreatDoor.D Go.Proofs.YtbklpdcipfhdjaaGreatDoor.P Go.Proofs.YtbklpdcipfhdjaaGreatDoor.Q Go.Proofs.YtbklpdcipfhdjaaGreatDoor.R

/-- The texts lie in the row of block b, from off on. -/
def RowS (w : World) (b off : Nat) (l : List ByteArray) : Prop := ∀ i x, l[i]? = some x → w.cell? ⟨b, off + i, none⟩ = some (.string x)
theorem RowS.below {w w' : World} {b off : Nat} {l : List ByteArray} (h : RowS w b off l) (hb : Below w.heap.size w w') : RowS w' b off l := by
  intro i x hx
  have h0 := h i x hx
  exact (hb.cell (p := ⟨b, off + i, none⟩) (cell_lt h0)).trans h0
theorem take_snoc {α : Type} {l : List α} {k : Nat} {x : α} (h : l[k]? = some x) : l.take (k + 1) = l.take k ++ [x] := by
  rw [List.take_add_one, h]; rfl
theorem all_snoc {p : ByteArray → Prop} {l : List ByteArray} {k : Nat} {x : ByteArray} (h : l[k]? = some x) (ha : ∀ y ∈ l.take k, p y) (hx : p x) : ∀ y ∈ l.take (k + 1), p y := by
  intro y hy
  rw [take_snoc h] at hy
  rcases List.mem_append.1 hy with hy | hy
  · exact ha y hy
  · simp at hy; subst hy; exact hx

set_option maxHeartbeats 1000000 in
set_option maxRecDepth 100000 in
theorem fits7_none (ao : Option Addr) (cap : Nat) (w : World) :
    Calls Tryz.prog 17 #[.slice ao 0 cap] w fun e w' => (∃ v, e = .returned (.bool v)) ∧ Below w.heap.size w w' := by
  go_enter Tryz.func17, Tryz.ntmps17
  go_wp2_with fail
  refine wp_loop_rounds 1 ?_
  rw [rounds_succ]
  go_wp2_with fail
  go_ret
  exact ⟨⟨_, rfl⟩, Below.refl _ _⟩

set_option maxHeartbeats 1000000 in
set_option maxRecDepth 100000 in
theorem fits7_row (b off cap : Nat) (l : List ByteArray) (w : World) (h : RowS w b off l) :
    Calls Tryz.prog 17 #[.slice (some ⟨b, off, none⟩) l.length cap] w fun e w' => (∃ v, e = .returned (.bool v) ∧ (v = true → l.length ≤ 2147483647)) ∧ Below w.heap.size w w' := by
  have H := Lib.hid h
  clear h
  generalize hn : l.length = n at *
  have HN := Lib.hid hn
  clear hn
  go_enter Tryz.func17, Tryz.ntmps17
  by_cases hbig : (2147483647 : Int) < n
  · have b1 : decide ((2147483647 : Int) < n) = true := decide_eq_true hbig
    go_wp2_with fail
    go_ret
    exact ⟨⟨_, rfl, by intro h; cases h⟩, Below.refl _ _⟩
  · have b1 : decide ((2147483647 : Int) < n) = false := decide_eq_false hbig
    have hn2 : n ≤ 2147483647 := by omega
    go_wp2_with fail
    go_loopw [10] (fun i wr => ∃ k : Nat, k ≤ n ∧ i = .int .i64 k ∧ Hid (Below w.heap.size w wr)) (fun i _ => n - (intOf i).toNat)
    case atStart => exact ⟨0, Nat.zero_le _, rfl, Lib.hid (Below.refl _ _)⟩
    case round =>
      obtain ⟨k, hk, rfl, HB⟩ := hrel
      by_cases hlt : k < n
      · obtain ⟨x, hx⟩ : ∃ x, l[k]? = some x := ⟨l[k]'(by rw [HN.out]; exact hlt), List.getElem?_eq_getElem _⟩
        have c0 := (H.out.below HB.out) k x hx
        clear hx
        by_cases hxs : (2147483647 : Int) < x.size
        · have b2 : decide ((2147483647 : Int) < x.size) = true := decide_eq_true hxs
          go_wp2_with fail
          go_ret
          exact ⟨⟨_, rfl, by intro h; cases h⟩, HB.out⟩
        · have b2 : decide ((2147483647 : Int) < x.size) = false := decide_eq_false hxs
          go_wp2_with fail
          exact ⟨⟨k + 1, by omega, by go_num, HB⟩, by simp [intOf]; omega⟩
      · obtain rfl : k = n := by omega
        go_wp2_with fail
        go_ret
        exact ⟨⟨_, rfl, fun _ => hn2⟩, HB.out⟩

set_option maxHeartbeats 1000000 in
set_option maxRecDepth 100000 in
theorem brief_none (ao : Option Addr) (cap : Nat) (w : World) :
    Calls Tryz.prog 18 #[.slice ao 0 cap] w fun e w' => (∃ v, e = .returned (.bool v)) ∧ Below w.heap.size w w' := by
  go_enter Tryz.func18, Tryz.ntmps18
  go_wp2_with fail
  refine wp_loop_rounds 1 ?_
  rw [rounds_succ]
  go_wp2_with fail
  go_ret
  exact ⟨⟨_, rfl⟩, Below.refl _ _⟩

/-- The texts are few and short. -/
def BriefP (l : List ByteArray) : Prop := l.length ≤ 65536 ∧ ∀ x ∈ l, x.size ≤ 16777216

set_option maxHeartbeats 1000000 in
set_option maxRecDepth 100000 in
theorem brief_row (b off cap : Nat) (l : List ByteArray) (w : World) (hl : l.length ≤ 2147483647) (h : RowS w b off l) :
    Calls Tryz.prog 18 #[.slice (some ⟨b, off, none⟩) l.length cap] w fun e w' => (∃ v, e = .returned (.bool v) ∧ (v = true → BriefP l)) ∧ Below w.heap.size w w' := by
  have H := Lib.hid h
  clear h
  generalize hn : l.length = n at *
  have HN := Lib.hid hn
  clear hn
  go_enter Tryz.func18, Tryz.ntmps18
  go_wp2_with fail
  go_loopw [7] (fun i wr => ∃ k : Nat, k ≤ n ∧ i = .int .i64 k ∧ Hid (∀ y ∈ l.take k, y.size ≤ 16777216) ∧ Hid (Below w.heap.size w wr)) (fun i _ => n - (intOf i).toNat)
  case atStart => exact ⟨0, Nat.zero_le _, rfl, Lib.hid (by simp), Lib.hid (Below.refl _ _)⟩
  case round =>
    obtain ⟨k, hk, rfl, HA, HB⟩ := hrel
    by_cases hlt : k < n
    · obtain ⟨x, hx⟩ : ∃ x, l[k]? = some x := ⟨l[k]'(by rw [HN.out]; exact hlt), List.getElem?_eq_getElem _⟩
      have c0 := (H.out.below HB.out) k x hx
      have HX := Lib.hid hx
      clear hx
      by_cases hxs : (16777216 : Int) < x.size
      · have b2 : decide ((16777216 : Int) < x.size) = true := decide_eq_true hxs
        go_wp2_with fail
        go_ret
        exact ⟨⟨_, rfl, by intro h; cases h⟩, HB.out⟩
      · have b2 : decide ((16777216 : Int) < x.size) = false := decide_eq_false hxs
        have G := Lib.hid (all_snoc (p := fun y => y.size ≤ 16777216) HX.out HA.out (by omega))
        go_wp2_with fail
        exact ⟨⟨k + 1, by omega, by go_num, G, HB⟩, by simp [intOf]; omega⟩
    · obtain rfl : k = n := by omega
      have HA2 : Hid (∀ x ∈ l, x.size ≤ 16777216) := Lib.hid (by
        have := HA.out
        rw [List.take_of_length_le (by rw [HN.out]; exact Nat.le_refl _)] at this
        exact this)
      by_cases h6 : (k : Int) ≤ 65536
      · have b3 : decide ((k : Int) ≤ 65536) = true := decide_eq_true h6
        go_wp2_with fail
        go_ret
        exact ⟨⟨_, rfl, fun _ => ⟨by rw [HN.out]; omega, HA2.out⟩⟩, HB.out⟩
      · have b3 : decide ((k : Int) ≤ 65536) = false := decide_eq_false h6
        go_wp2_with fail
        go_ret
        exact ⟨.inl rfl, HB.out⟩

/-- The texts one behind the other. -/
def cat (l : List ByteArray) : List UInt8 := l.flatMap bl
theorem cat_take_le (l : List ByteArray) (k : Nat) : (cat (l.take k)).length ≤ (cat l).length := by
  have e : cat l = cat (l.take k) ++ cat (l.drop k) := by unfold cat; rw [← List.flatMap_append, List.take_append_drop]
  rw [e, List.length_append]
  omega
theorem cat_snoc {l : List ByteArray} {k : Nat} {x : ByteArray} (h : l[k]? = some x) : cat (l.take (k + 1)) = cat (l.take k) ++ bl x := by
  rw [take_snoc h]; simp [cat]

set_option maxHeartbeats 1000000 in
set_option maxRecDepth 100000 in
theorem join_row (b off cap : Nat) (l : List ByteArray) (w : World) (hl : l.length ≤ 2147483647) (hc : (cat l).length ≤ 1099511627776) (h : RowS w b off l) :
    Calls Tryz.prog 23 #[.slice (some ⟨b, off, none⟩) l.length cap] w fun e w' => e = .returned (.string (tx (cat l))) ∧ Below w.heap.size w w' := by
  have H := Lib.hid h
  have HC := Lib.hid hc
  clear h hc
  generalize hn : l.length = n at *
  have HN := Lib.hid hn
  clear hn
  go_enter Tryz.func23, Tryz.ntmps23
  go_wp2_with fail
  go_loopw [3, 8] (fun v i wr => ∃ k : Nat, ∃ u : ByteArray, k ≤ n ∧ i = .int .i64 k ∧ v = .string u ∧ Hid (bl u = cat (l.take k)) ∧ Hid (Below w.heap.size w wr)) (fun _ i _ => n - (intOf i).toNat)
  case atStart => exact ⟨0, ⟨#[]⟩, Nat.zero_le _, rfl, rfl, Lib.hid (by simp [cat]), Lib.hid (Below.refl _ _)⟩
  case round =>
    obtain ⟨k, u, hk, rfl, rfl, HU, HB⟩ := hrel
    by_cases hlt : k < n
    · obtain ⟨x, hx⟩ : ∃ x, l[k]? = some x := ⟨l[k]'(by rw [HN.out]; exact hlt), List.getElem?_eq_getElem _⟩
      have c0 := (H.out.below HB.out) k x hx
      have G : Hid (bl (u ++ x) = cat (l.take (k + 1))) := Lib.hid (by rw [cat_snoc hx, ← HU.out]; simp [bl])
      have hus : u.size + x.size ≤ 1099511627776 := by
        have h1 := cat_take_le l (k + 1)
        rw [cat_snoc hx, ← HU.out, List.length_append, ← sz, ← sz] at h1
        have := HC.out
        omega
      clear hx
      go_wp2_with fail
      exact ⟨⟨k + 1, _, by omega, by go_num, rfl, G, HB⟩, by simp [intOf]; omega⟩
    · obtain rfl : k = n := by omega
      have G : Hid (Value.string u = .string (tx (cat l))) := Lib.hid (by
        have := HU.out
        rw [List.take_of_length_le (by rw [HN.out]; exact Nat.le_refl _)] at this
        rw [← this]; rfl)
      go_wp2_with fail
      go_ret
      exact ⟨by rw [← G.out]; rfl, HB.out⟩

end Go.Proofs.YtbklpdcipfhdjaaGreatDoor.Sl
