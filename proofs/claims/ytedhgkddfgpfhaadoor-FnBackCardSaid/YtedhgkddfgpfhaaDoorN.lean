/- base64.NewEncoding of the standard alphabet, and stdEncoding: the block that they lay. -/
import Derived.Test.YtedhgkddfgpfhaaDoorB64
import Derived.Test.YtedhgkddfgpfhaaDoorChecked
import Derived.WalkKit
import Derived.RowKit3
import Derived.KernelRfl
import Derived.WalkLawsBesides
import Derived.WalkSpells
import Derived.Deep.LoopGhost
import Derived.Deep.QuietTactic
import Derived.BigQuiet
import Derived.BigRegion
import Derived.RegionTactic
import Derived.StillTailTactics
import Derived.Lib.Hide
import Derived.Lib.Strings
import Derived.Lib.FrozenHead
import Derived.Outline
namespace Go.Proofs.YtedhgkddfgpfhaaDoor.N
open Go.RowKit Go.Proofs.YtedhgkddfgpfhaaDoor.B64

/-- copy from a string into a whole stretch of a row. -/
theorem run_copy_str {P : Program} (w : World) (dt st ty e : TypeId) (g o n c : Nat) (cur : Array Value) (T : TypeId) (s : ByteArray) (hd : P.underlying dt = some (.slice e)) (hsz : ∀ w, (sizeOf e).run P w = .ok 1 w)
    (hg : w.heap[g]? = some (.cells cur T (0, 0))) (hs : s.size = n) (hfit : o + n ≤ cur.size) :
    (Builtin.copy_ #[dt, st] ty #[.slice (some ⟨g, o, none⟩) n c, .string s]).run P w = .ok (.int .i64 n) (w.setRow g (cur.toList.take o ++ Lib.byteCells s.data.toList ++ cur.toList.drop (o + n)).toArray) := by
  have hst := run_storeCells_atF P g o T (0, 0) (Lib.byteCells s.data.toList) 0 cur w hg (by omega) (by simp [Lib.byteCells_length]; omega) (by intro v hv; unfold Lib.byteCells at hv; simp only [List.mem_map] at hv; obtain ⟨x, _, rfl⟩ := hv; rfl)
  have hm : Nat.min s.size n = n := by rw [hs]; exact Nat.min_self n
  have he : List.take n (List.map (fun b => Value.int IntKind.u8 (b.toNat : Int)) s.data.toList) = Lib.byteCells s.data.toList := by
    rw [List.take_of_length_le (by simp; omega)]; rfl
  have hf : (Builtin.firstCells 1 n (.string s)).run P w = .ok ((s.extract 0 n).data.map fun b => Value.int .u8 b.toNat) w := rfl
  simp only [Nat.add_zero, Lib.byteCells_length] at hst
  have hl : s.data.toList.length = n := by simpa using hs
  rw [hl] at hst
  simp only [Builtin.copy_]
  simp [run_underlying hd, hsz, Builtin.lenOf, hm, hf, goInt]
  rw [he, hst]
  simp

/-- The cells of the encoding's block when k signs of the alphabet have been laid into its map. -/
def ENC (k : Nat) : List Value := (List.range 64).map (fun i => Value.int .u8 (al i).toNat) ++ (List.range 256).map (fun c => Value.int .u8 (dm k c)) ++ [.int .i32 61, .bool false]

theorem ENC_len (k : Nat) : (ENC k).length = 322 := by simp [ENC]
theorem ENC_enc (k i : Nat) (h : i < 64) : (ENC k)[i]? = some (.int .u8 (al i).toNat) := by
  unfold ENC
  rw [List.append_assoc, List.getElem?_append_left (by simpa using h)]
  simp [h]
theorem ENC_dec (k c : Nat) (h : c < 256) : (ENC k)[64 + c]? = some (.int .u8 (dm k c)) := by
  unfold ENC
  rw [List.append_assoc, List.getElem?_append_right (by simp), List.getElem?_append_left (by simp; omega)]
  simp [h]
theorem ENC_pad (k : Nat) : (ENC k)[320]? = some (.int .i32 61) := by simp [ENC]
theorem ENC_strict (k : Nat) : (ENC k)[321]? = some (.bool false) := by simp [ENC]
theorem ENC_set (k : Nat) (_h : k < 64) : (ENC k).set (64 + (al k).toNat) (.int .u8 k) = ENC (k + 1) := by
  have hb := (al k).toNat_lt
  apply List.ext_getElem?
  intro j
  rw [List.getElem?_set]
  by_cases hj : 64 + (al k).toNat = j
  · subst hj
    rw [if_pos rfl, if_pos (by rw [ENC_len]; omega), ENC_dec _ _ (by omega), dm_same]
  · rw [if_neg hj]
    by_cases h1 : j < 64
    · rw [ENC_enc _ _ h1, ENC_enc _ _ h1]
    · by_cases h2 : j < 320
      · obtain ⟨c, rfl⟩ : ∃ c, j = 64 + c := ⟨j - 64, by omega⟩
        rw [ENC_dec _ _ (by omega), ENC_dec _ _ (by omega), dm_other _ _ (by omega)]
      · by_cases h3 : j = 320
        · subst h3; rw [ENC_pad, ENC_pad]
        · by_cases h4 : j = 321
          · subst h4; rw [ENC_strict, ENC_strict]
          · rw [List.getElem?_eq_none (by rw [ENC_len]; omega), List.getElem?_eq_none (by rw [ENC_len]; omega)]

/-- Block g is an encoding with k signs laid. -/
def IsEnc (g k : Nat) (w : World) : Prop := w.heap[g]? = some (.cells (ENC k).toArray 103 (0, 0))
theorem IsEnc.cell {g k : Nat} {w : World} (h : IsEnc g k w) (j : Nat) (v : Value) (hv : (ENC k)[j]? = some v) : w.cell? ⟨g, j, none⟩ = some v := by
  simp only [World.cell?, IsEnc] at *
  rw [h]; simpa using hv
theorem IsEnc.frozen {g k : Nat} {w : World} (h : IsEnc g k w) (j : Nat) : w.frozen? ⟨g, j, none⟩ = false := by
  simp only [World.frozen?, IsEnc] at *
  rw [h]; simp
theorem IsEnc.lt {g k : Nat} {w : World} (h : IsEnc g k w) : g < w.heap.size := (Array.getElem?_eq_some_iff.1 h).1
theorem IsEnc.set {g k : Nat} {w : World} (h : IsEnc g k w) (hk : k < 64) : IsEnc g (k + 1) (w.setCell ⟨g, 64 + (al k).toNat, none⟩ (.int .u8 k)) := by
  unfold IsEnc at *
  rw [setCell_eq_setRow w g _ _ _ _ _ h]
  rw [setRow_heap w g _ _ _ _ h]
  congr 2
  rw [← ENC_set k hk, ← List.setIfInBounds_toArray]

theorem sizeOf5 (w : World) : (sizeOf 5).run Tryd.prog w = .ok 1 w := by kernel_rfl

noncomputable def Z0 : Array Value := Tryd.zeroCells103.setIfInBounds 320 (.int .i32 61)
theorem Z0_size : Z0.size = 322 := by kernel_rfl

set_option maxHeartbeats 4000000 in
set_option maxRecDepth 100000 in
theorem newEnc (w : World) :
    Calls Tryd.prog 40 #[.string ⟨#[65, 66, 67, 68, 69, 70, 71, 72, 73, 74, 75, 76, 77, 78, 79, 80, 81, 82, 83, 84, 85, 86, 87, 88, 89, 90, 97, 98, 99, 100, 101, 102, 103, 104, 105, 106, 107, 108, 109, 110, 111, 112, 113, 114, 115, 116, 117, 118, 119, 120, 121, 122, 48, 49, 50, 51, 52, 53, 54, 55, 56, 57, 43, 47]⟩] w fun e w' => e = .returned (.pointer (some ⟨w.heap.size, 0, none⟩)) ∧ Below w.heap.size w w' ∧ IsEnc w.heap.size 64 w' := by
  obtain ⟨s, hS⟩ : ∃ s : ByteArray, s = ⟨#[65, 66, 67, 68, 69, 70, 71, 72, 73, 74, 75, 76, 77, 78, 79, 80, 81, 82, 83, 84, 85, 86, 87, 88, 89, 90, 97, 98, 99, 100, 101, 102, 103, 104, 105, 106, 107, 108, 109, 110, 111, 112, 113, 114, 115, 116, 117, 118, 119, 120, 121, 122, 48, 49, 50, 51, 52, 53, 54, 55, 56, 57, 43, 47]⟩ := ⟨_, rfl⟩
  rw [← hS]
  have hs : s.size = 64 := by rw [hS]; rfl
  have hsb : s.data.toList = (List.range 64).map al := by rw [hS]; decide +kernel
  have HSB := Lib.hid hsb
  have HSZ := Lib.hid hs
  have b0 : ((s.size : Int) != 64) = false := by rw [hs]; rfl
  clear hS hsb hs
  go_enter Tryd.func40, Tryd.ntmps40
  go_wp2_with fail
  rw [show Tryd.zeroCells103.setIfInBounds 320 (.int .i32 61) = Z0 from rfl]
  rw [run_copy_str (P := Tryd.prog) (w.alloc (.cells Z0 103)) 46 9 3 5 w.heap.size 0 64 64 Z0 103 s Tryd.underlying46 sizeOf5 (heap_alloc_new w _) HSZ.out (by rw [Z0_size]; omega)]
  simp only [Result.andThen]
  rw [Oper.upon_value]
  obtain ⟨W1, hW1⟩ : ∃ W1, W1 = (w.alloc (.cells Z0 103)).setRow w.heap.size (Z0.toList.take 0 ++ Lib.byteCells s.data.toList ++ Z0.toList.drop (0 + 64)).toArray := ⟨_, rfl⟩
  rw [← hW1]
  have hg1 := setRow_heap (w.alloc (.cells Z0 103)) w.heap.size Z0 (Z0.toList.take 0 ++ Lib.byteCells s.data.toList ++ Z0.toList.drop (0 + 64)).toArray 103 _ (heap_alloc_new w _)
  rw [← hW1] at hg1
  have hsz1 : W1.heap.size = w.heap.size + 1 := by rw [hW1]; simp [World.setRow]
  have hbw1 : Below w.heap.size w W1 := by
    rw [hW1]
    refine ((Below.refl _ w).alloc (Nat.le_refl _) _).trans ⟨rfl, rfl, rfl, by simp [World.setRow], fun k hk => setRow_other _ _ k _ (by omega)⟩
  have HG1 := Lib.hid hg1
  have HSZ1 := Lib.hid hsz1
  clear hg1 hsz1 hW1
  go_wp2_with fail
  rw [run_copy_str (P := Tryd.prog) W1 46 9 3 5 w.heap.size 64 256 256 _ 103 _ Tryd.underlying46 sizeOf5 HG1.out (by kernel_rfl) (by simp [Lib.byteCells_length, HSB.out, Z0_size])]
  simp only [Result.andThen]
  rw [Oper.upon_value]
  generalize hB2 : (List.take 64 (List.take 0 Z0.toList ++ Lib.byteCells s.data.toList ++ List.drop (0 + 64) Z0.toList).toArray.toList ++ Lib.byteCells _ ++ List.drop (64 + 256) (List.take 0 Z0.toList ++ Lib.byteCells s.data.toList ++ List.drop (0 + 64) Z0.toList).toArray.toList) = L2
  have hL2 : L2 = ENC 0 := by
    rw [← hB2, HSB.out]
    simp only [List.take_zero, List.nil_append]
    kernel_rfl
  clear hB2
  subst hL2
  obtain ⟨W2, hW2⟩ : ∃ W2, W2 = W1.setRow w.heap.size (ENC 0).toArray := ⟨_, rfl⟩
  rw [← hW2]
  have hi2 : IsEnc w.heap.size 0 W2 := by rw [hW2]; exact setRow_heap _ _ _ _ _ _ HG1.out
  have hbw2 : Below w.heap.size w W2 := by
    rw [hW2]; exact hbw1.trans ⟨rfl, rfl, rfl, by simp [World.setRow], fun k hk => setRow_other _ _ k _ (by omega)⟩
  have HI2 := Lib.hid hi2
  clear hi2 hW2 hbw1 HG1 HSZ1
  go_wp2_with fail
  go_loopw [4] (fun i wr => ∃ k : Nat, k ≤ 64 ∧ i = .int .i64 k ∧ Hid (IsEnc w.heap.size k wr) ∧ Below w.heap.size w wr) (fun i _ => 64 - (intOf i).toNat)
  case atStart => exact ⟨0, by omega, rfl, HI2, hbw2⟩
  case round =>
    obtain ⟨k, hk, rfl, HI, hbw⟩ := hrel
    clear HI2 hbw2
    by_cases hlt : k < 64
    · have hks : k < s.size := by rw [HSZ.out]; exact hlt
      have hsk : s[k] = al k := by
        have : s.data.toList[k]'(by simpa using hks) = al k := by
          have e : s.data.toList[k]? = some (al k) := by rw [HSB.out]; simp [hlt]
          exact Option.some.inj ((List.getElem?_eq_getElem _).symm.trans e)
        exact this
      have hok := al_ok k hlt
      rw [← hsk] at hok
      have bd := s[k].toNat_lt
      have n10 : ((s[k].toNat : Int) == 10) = false := by rw [beq_eq_false_iff_ne]; omega
      have n13 : ((s[k].toNat : Int) == 13) = false := by rw [beq_eq_false_iff_ne]; omega
      have hc : wr.cell? ⟨w.heap.size, 64 + s[k].toNat, none⟩ = some (.int .u8 (255 : Nat)) := by
        refine HI.out.cell _ _ ?_
        rw [ENC_dec _ _ (by omega), hsk, dm_new k hlt]
      have hf : wr.frozen? ⟨w.heap.size, 64 + s[k].toNat, none⟩ = false := HI.out.frozen _
      have HK := Lib.hid hsk
      clear hok hsk
      go_wp2_with fail
      go_quiet (fail)
      go_wp2_with fail
      go_region
      have HS : ∀ W, IsEnc w.heap.size k W → Hid (IsEnc w.heap.size (k + 1) (W.setCell ⟨w.heap.size, 64 + s[k].toNat, none⟩ (.int .u8 k))) := by
        intro W hW; rw [HK.out]; exact Lib.hid (hW.set hlt)
      have HS' := Lib.hid HS
      clear HS
      go_wp2_with fail
      go_roundw
      case rel =>
        refine ⟨k + 1, by omega, by go_num, HS'.out _ HI.out, ?_⟩
        exact hbw.trans ⟨rfl, rfl, rfl, by simp [World.setCell], fun j hj => Below.heap_setCell _ _ _ _ (by show j ≠ w.heap.size; omega)⟩
      case measure => simp [intOf]; omega
    · obtain rfl : k = 64 := by omega
      have hle : ¬ 64 < s.size := by rw [HSZ.out]; omega
      go_wp2_with fail
      go_ret
      exact ⟨rfl, hbw, HI.out⟩

set_option maxHeartbeats 1000000 in
theorem stdEnc (w : World) :
    Calls Tryd.prog 23 #[] w fun e w' => e = .returned (.pointer (some ⟨w.heap.size, 0, none⟩)) ∧ Below w.heap.size w w' ∧ IsEnc w.heap.size 64 w' := by
  go_enter Tryd.func23, Tryd.ntmps23
  go_wp2_with fail
  refine (newEnc w).mono ?_
  rintro e w1 ⟨rfl, hb, hi⟩
  go_wp2_with fail
  go_ret
  exact ⟨rfl, hb, hi⟩

end Go.Proofs.YtedhgkddfgpfhaaDoor.N
