/- The walk of Lower. -/
import Derived.Test.YtbklpdcipfhdjaaGreatDoorF
import Derived.Laws.IdiomStrings
namespace Go.Proofs.YtbklpdcipfhdjaaGreatDoor.G
open Go.RowKit Go.Proofs.YtbklpdcipfhdjaaGreatDoor.A

/-- A byte in small letters. -/
def low (c : UInt8) : UInt8 := if 65 ≤ c.toNat ∧ c.toNat ≤ 90 then UInt8.ofNat (c.toNat + 32) else c
def lower (s : ByteArray) : ByteArray := ⟨(s.data.toList.map low).toArray⟩

theorem cell_set (w : World) (d o p : Nat) (v : Value) : (w.setCell ⟨d, o, none⟩ v).cell? ⟨d, p, none⟩ = if o = p then (w.cell? ⟨d, p, none⟩).map (fun _ => v) else w.cell? ⟨d, p, none⟩ := by
  simp only [World.setCell, World.cell?, Array.getElem?_modify]
  by_cases h : o = p
  · subst h
    cases hd : w.heap[d]? with
    | none => simp
    | some x =>
      cases x <;> simp
      rename_i c e f
      rw [Array.getElem?_setIfInBounds]
      by_cases hlt : o < c.size
      · simp [hlt]
      · simp [hlt]
  · rw [if_neg h]
    cases hd : w.heap[d]? with
    | none => simp
    | some x =>
      cases x <;> simp [h]
theorem frozen_set (w : World) (d o : Nat) (p : Nat) (v : Value) : (w.setCell ⟨d, o, none⟩ v).frozen? ⟨d, p, none⟩ = w.frozen? ⟨d, p, none⟩ := by
  simp only [World.setCell, World.frozen?, Array.getElem?_modify]
  cases hd : w.heap[d]? with
  | none => simp
  | some x => cases x <;> simp

/-- The first k bytes are in small letters, the others as they were. -/
structure Lw (B g : Nat) (s : ByteArray) (k : Nat) (w wr : World) : Prop where
  done_ : ∀ j (h : j < s.size), j < k → wr.cell? ⟨g, j, none⟩ = some (.int .u8 (low s[j]).toNat)
  rest : ∀ j (h : j < s.size), k ≤ j → wr.cell? ⟨g, j, none⟩ = some (.int .u8 (s[j]).toNat)
  nofz : ∀ j, j < s.size → wr.frozen? ⟨g, j, none⟩ = false
  below : Below B w wr

theorem Lw.same {B g k : Nat} {s : ByteArray} {w wr : World} (h : Lw B g s k w wr) (hk : k < s.size) (e : low s[k] = s[k]) : Lw B g s (k + 1) w wr := by
  refine ⟨fun j hj hjk => ?_, fun j hj hjk => h.rest j hj (by omega), h.nofz, h.below⟩
  by_cases hjk2 : j < k
  · exact h.done_ j hj hjk2
  · obtain rfl : j = k := by omega
    rw [e]; exact h.rest j hj (Nat.le_refl _)
theorem Lw.set {B g k : Nat} {s : ByteArray} {w wr : World} (h : Lw B g s k w wr) (hk : k < s.size) (hB : B ≤ g) (v : Value) (hv : v = .int .u8 (low s[k]).toNat) : Lw B g s (k + 1) w (wr.setCell ⟨g, k, none⟩ v) := by
  subst hv
  refine ⟨fun j hj hjk => ?_, fun j hj hjk => ?_, fun j hj => by rw [frozen_set]; exact h.nofz j hj, h.below.trans ⟨rfl, rfl, rfl, by simp [World.setCell], fun i hi => Below.heap_setCell _ _ _ _ (by show i ≠ g; omega)⟩⟩
  · by_cases hjk2 : j < k
    · rw [cell_set, if_neg (by omega)]; exact h.done_ j hj hjk2
    · obtain rfl : j = k := by omega
      rw [cell_set, if_pos rfl, h.rest j hj (Nat.le_refl _)]; rfl
  · rw [cell_set, if_neg (by omega)]; exact h.rest j hj (by omega)

theorem conv (w : World) (s : ByteArray) : ∃ cap W, (convert 9 59 (.string s)).run Tryz.prog w = .ok (.slice (some ⟨w.heap.size, 0, none⟩) s.size cap) W ∧ s.size ≤ cap ∧ Hid (Lw w.heap.size w.heap.size s 0 w W) := by
  refine ⟨_, _, run_bytes_of_string (P := Tryz.prog) w 9 59 5 s Tryz.underlying9 Tryz.underlying59 Tryz.underlying5, grownCap_ge w s.size 0 5, Lib.hid ⟨fun j h hj => absurd hj (Nat.not_lt_zero j), fun j h _ => ?_, fun j h => ?_, (Below.refl w.heap.size w).drew.alloc (Nat.le_refl _) _⟩⟩
  · refine (World.cell?_alloc_mark w.drew _ 5 _ j).trans ?_
    rw [bytesRow_at s _ j h]; rfl
  · have hh := heap_alloc_new w.drew (.cells (bytesRow s (grownCap w s.size 0 5)) 5 ((bytesRow s (grownCap w s.size 0 5)).size, (bytesRow s (grownCap w s.size 0 5)).size + 1))
    have hle : j < (bytesRow s (grownCap w s.size 0 5)).size := by
      have := bytesRow_at s (grownCap w s.size 0 5) j h
      exact (Array.getElem?_eq_some_iff.1 this).1
    have hh' : (w.drew.alloc (.cells (bytesRow s (grownCap w s.size 0 5)) 5 ((bytesRow s (grownCap w s.size 0 5)).size, (bytesRow s (grownCap w s.size 0 5)).size + 1))).heap[w.heap.size]? = _ := hh
    simp only [World.frozen?, hh']
    simp
    omega

set_option maxHeartbeats 1000000 in
set_option maxRecDepth 100000 in
theorem lower_any (s : ByteArray) (w : World) (hs : s.size ≤ 1099511627776) :
    Calls Tryz.prog 16 #[.string s] w fun e w' => e = .returned (.string (lower s)) ∧ Below w.heap.size w w' := by
  go_enter Tryz.func16, Tryz.ntmps16
  go_wp2_with fail
  obtain ⟨cap, W, hcv, hcap, HL⟩ := conv w s
  rw [hcv]
  simp only [Result.andThen]
  rw [Oper.upon_value]
  clear hcv
  go_wp2_with fail
  go_loopw [10] (fun i wr => ∃ k : Nat, k ≤ s.size ∧ i = .int .i64 k ∧ Hid (Lw w.heap.size w.heap.size s k w wr)) (fun i _ => s.size - (intOf i).toNat)
  case atStart => exact ⟨0, Nat.zero_le _, rfl, HL⟩
  case round =>
    obtain ⟨k, hk, rfl, H⟩ := hrel
    by_cases hlt : k < s.size
    · have bd := s[k].toNat_lt
      have hc := H.out.rest k hlt (Nat.le_refl _)
      have hf := H.out.nofz k hlt
      by_cases h1 : 65 ≤ s[k].toNat
      · have b1 : decide (65 ≤ (s[k].toNat : Int)) = true := decide_eq_true (by omega)
        by_cases h2 : s[k].toNat ≤ 90
        · have b2 : decide ((s[k].toNat : Int) ≤ 90) = true := decide_eq_true (by omega)
          have G : Hid (Lw w.heap.size w.heap.size s (k + 1) w (wr.setCell ⟨w.heap.size, k, none⟩ (.int .u8 ((s[k].toNat : Int) + 32)))) := by
            refine Lib.hid (H.out.set hlt (Nat.le_refl _) _ ?_)
            have e : (low s[k]).toNat = s[k].toNat + 32 := by
              unfold low; rw [if_pos ⟨h1, h2⟩]; simp; omega
            rw [e]; rfl
          go_wp2_with fail
          exact ⟨⟨k + 1, by omega, by go_num, G⟩, by simp [intOf]; omega⟩
        · have b2 : decide ((s[k].toNat : Int) ≤ 90) = false := decide_eq_false (by omega)
          have G := Lib.hid (H.out.same hlt (by unfold low; rw [if_neg (by omega)]))
          go_wp2_with fail
          exact ⟨⟨k + 1, by omega, by go_num, G⟩, by simp [intOf]; omega⟩
      · have b1 : decide (65 ≤ (s[k].toNat : Int)) = false := decide_eq_false (by omega)
        have G := Lib.hid (H.out.same hlt (by unfold low; rw [if_neg (by omega)]))
        go_wp2_with fail
        exact ⟨⟨k + 1, by omega, by go_num, G⟩, by simp [intOf]; omega⟩
    · obtain rfl : k = s.size := by omega
      have hcv : (convert 59 9 (.slice (some ⟨w.heap.size, 0, none⟩) s.size cap)).run Tryz.prog wr = .ok (.string (lower s)) wr := by
        have h1 := run_convert_bytes_back (P := Tryz.prog) wr 59 9 5 ⟨w.heap.size, 0, none⟩ cap (s.data.toList.map low) Tryz.underlying59 Tryz.underlying5 Tryz.underlying9 (fun j hj => by
          have hj' : j < s.size := by simpa using hj
          have hadd : (⟨w.heap.size, 0, none⟩ : Addr).add j = ⟨w.heap.size, j, none⟩ := by unfold Addr.add; split <;> simp_all
          rw [hadd, H.out.done_ j hj' hj', List.getElem_map]; rfl)
        have h2 : (s.data.toList.map low).length = s.size := by simp
        rw [h2] at h1
        exact h1
      have HB := Lib.hid H.out.below
      go_wp2_with fail
      go_ret
      exact ⟨rfl, HB.out⟩

end Go.Proofs.YtbklpdcipfhdjaaGreatDoor.G
