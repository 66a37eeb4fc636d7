/- The walk of Text. -/
import Derived.Test.YtbklpdcipfhdjaaGreatDoorY
namespace Go.Proofs.YtbklpdcipfhdjaaGreatDoor.Z
open Go.RowKit Go.Proofs.YtbklpdcipfhdjaaGreatDoor.A Go.Proofs.YtbklpdcipfhdjaaGreatDoor.D Go.Proofs.YtbklpdcipfhdjaaGreatDoor.G Go.Proofs.YtbklpdcipfhdjaaGreatDoor.H Go.Proofs.YtbklpdcipfhdjaaGreatDoor.P Go.Proofs.YtbklpdcipfhdjaaGreatDoor.Q Go.Proofs.YtbklpdcipfhdjaaGreatDoor.R Go.Proofs.YtbklpdcipfhdjaaGreatDoor.T Go.Proofs.YtbklpdcipfhdjaaGreatDoor.V Go.Proofs.YtbklpdcipfhdjaaGreatDoor.W Go.Proofs.YtbklpdcipfhdjaaGreatDoor.X Go.Proofs.YtbklpdcipfhdjaaGreatDoor.Y

set_option maxHeartbeats 1000000 in
set_option maxRecDepth 100000 in
theorem text_none (ao : Option Addr) (cap : Nat) (w : World) :
    Calls Tryz.prog 15 #[.slice ao 0 cap] w fun e w' => e = .returned (.string ⟨#[]⟩) ∧ Below w.heap.size w w' := by
  go_enter Tryz.func15, Tryz.ntmps15
  go_wp2_with fail
  refine wp_loop_rounds 1 ?_
  rw [rounds_succ]
  go_wp2_with fail
  go_ret
  exact ⟨rfl, Below.refl _ _⟩

theorem qb_le (l : List UInt8) : (qb l).length ≤ 2 * l.length := by
  induction l with
  | nil => simp [qb]
  | cons c l ih => simp only [qb]; split <;> simp <;> omega
theorem bl_append (a b : ByteArray) : bl (a ++ b) = bl a ++ bl b := by simp [bl]
theorem take_texts {l : List Wn} {k : Nat} {x : Wn} (h : l.take (k + 1) = l.take k ++ [x]) : texts (l.take (k + 1)) = texts (l.take k) ++ Wn.text x := by
  rw [h]; simp [texts]
theorem texts_take_le (l : List Wn) (k : Nat) : (texts (l.take k)).length ≤ (texts l).length := by
  have e : texts l = texts (l.take k) ++ texts (l.drop k) := by unfold texts; rw [← List.flatMap_append, List.take_append_drop]
  rw [e, List.length_append]
  omega

set_option maxHeartbeats 2000000 in
set_option maxRecDepth 100000 in
theorem text_row (b off cap : Nat) (l : List Wn) (w : World) (hl : l.length ≤ 1099511627776) (hsm : ∀ x ∈ l, Sm x) (htl : (texts l).length ≤ 1099511627776) (h : RowW w b off l) :
    Calls Tryz.prog 15 #[.slice (some ⟨b, off, none⟩) l.length cap] w fun e w' => e = .returned (.string (tx (texts l))) ∧ Below w.heap.size w w' := by
  have H := Lib.hid h
  have HS := Lib.hid hsm
  have HTL := Lib.hid htl
  clear h hsm htl
  generalize hn : l.length = n at *
  have HN := Lib.hid hn
  clear hn
  go_enter Tryz.func15, Tryz.ntmps15
  go_wp2_with fail
  go_loopw [3, 8] (fun v i wr => ∃ k : Nat, ∃ u : ByteArray, k ≤ n ∧ i = .int .i64 k ∧ v = .string u ∧ Hid (bl u = texts (l.take k)) ∧ Hid (Below w.heap.size w wr)) (fun _ i _ => n - (intOf i).toNat)
  case atStart => exact ⟨0, ⟨#[]⟩, Nat.zero_le _, rfl, rfl, Lib.hid (by simp [texts]), Lib.hid (Below.refl _ _)⟩
  case round =>
    obtain ⟨k, u, hk, rfl, rfl, HU, HB⟩ := hrel
    by_cases hlt : k < n
    · obtain ⟨x, hx⟩ : ∃ x, l[k]? = some x := ⟨l[k]'(by rw [HN.out]; exact hlt), List.getElem?_eq_getElem _⟩
      obtain ⟨c0, c1, c2, c3, c4⟩ := (H.out.below HB.out) k x hx
      have hsm := HS.out x (List.mem_of_getElem? hx)
      have HT := Lib.hid (take_snoc hx)
      clear hx
      obtain ⟨w5, hw5⟩ : ∃ w5, w5 = wr.alloc (.cells #[.string x.ahead, .string x.behind, .string x.name, .string x.value, .bool x.quoted] 24) := ⟨_, rfl⟩
      have HB5 : Hid (Below w.heap.size w w5) := Lib.hid (by rw [hw5]; exact HB.out.alloc HB.out.size _)
      have d0 : w5.cell? ⟨wr.heap.size, 0, none⟩ = some (.string x.ahead) := by rw [hw5, Lib.cell_of_heap (heap_alloc_new wr _)]; rfl
      have d1 : w5.cell? ⟨wr.heap.size, 1, none⟩ = some (.string x.behind) := by rw [hw5, Lib.cell_of_heap (heap_alloc_new wr _)]; rfl
      have d2 : w5.cell? ⟨wr.heap.size, 2, none⟩ = some (.string x.name) := by rw [hw5, Lib.cell_of_heap (heap_alloc_new wr _)]; rfl
      have d3 : w5.cell? ⟨wr.heap.size, 3, none⟩ = some (.string x.value) := by rw [hw5, Lib.cell_of_heap (heap_alloc_new wr _)]; rfl
      have d4 : w5.cell? ⟨wr.heap.size, 4, none⟩ = some (.bool x.quoted) := by rw [hw5, Lib.cell_of_heap (heap_alloc_new wr _)]; rfl
      have hqt := quote_any x.value w5 hsm.v
      obtain ⟨ha, hb, hn1, hv⟩ := hsm
      have hus : u.size ≤ 1099511627776 := by rw [sz, HU.out]; have := texts_take_le l k; have := HTL.out; omega
      have hqs : (tx (quoteL (bl x.value))).size ≤ 4398046511104 := by
        rw [size_tx]; unfold quoteL; simp; have := qb_le (bl x.value); have h2 := sz x.value; omega
      cases hq : x.quoted with
      | true =>
        rw [hq] at c4 hw5 d4
        have G : Hid (bl (u ++ (x.ahead ++ ⟨#[59]⟩ ++ x.behind ++ x.name ++ ⟨#[61]⟩) ++ tx (quoteL (bl x.value))) = texts (l.take (k + 1))) := Lib.hid (by
          rw [take_texts HT.out]
          simp only [bl_append, HU.out, bl_tx]
          unfold Wn.text Wn.val
          rw [hq]
          simp [bl])
        generalize tx (quoteL (bl x.value)) = qv at *
        go_wp2_with fail
        rw [← hw5]
        clear hw5
        refine hqt.mono ?_
        clear hqt
        rintro e w6 ⟨rfl, hB6⟩
        have HB6 := Lib.hid (chain HB5.out hB6)
        clear hB6
        go_wp2_with fail
        exact ⟨⟨k + 1, _, by omega, by go_num, rfl, G, HB6⟩, by simp [intOf]; omega⟩
      | false =>
        rw [hq] at c4 hw5 d4
        have G : Hid (bl (u ++ (x.ahead ++ ⟨#[59]⟩ ++ x.behind ++ x.name ++ ⟨#[61]⟩) ++ x.value) = texts (l.take (k + 1))) := Lib.hid (by
          rw [take_texts HT.out]
          simp only [bl_append, HU.out]
          unfold Wn.text Wn.val
          rw [hq]
          simp [bl])
        clear hqt hqs
        go_wp2_with fail
        rw [← hw5]
        clear hw5
        exact ⟨⟨k + 1, _, by omega, by go_num, rfl, G, HB5⟩, by simp [intOf]; omega⟩
    · obtain rfl : k = n := by omega
      have G : Hid (Value.string u = .string (tx (texts l))) := Lib.hid (by
        have := HU.out
        rw [List.take_of_length_le (by rw [HN.out]; exact Nat.le_refl _)] at this
        rw [← this]; rfl)
      go_wp2_with fail
      go_ret
      exact ⟨by rw [← G.out]; rfl, HB.out⟩

end Go.Proofs.YtbklpdcipfhdjaaGreatDoor.Z
