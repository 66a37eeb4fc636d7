/- The walks of base64's assemble32, assemble64, of BEPutUint32, BEPutUint64, and of DecodedLen. -/
import Derived.Test.YtedhgkddfgpfhaaDoorDq
import Derived.Laws.BitsAllLaws
namespace Go.Proofs.YtedhgkddfgpfhaaDoor.Da
open Go.RowKit Go.Proofs.YtedhgkddfgpfhaaDoor.B64 Go.Proofs.YtedhgkddfgpfhaaDoor.N Go.Proofs.YtedhgkddfgpfhaaDoor.En Go.Proofs.YtedhgkddfgpfhaaDoor.Dq

theorem or64 (a b : Nat) (ha : a < 64) (hb : b < 64) : ∃ c : Nat, c < 64 ∧ bits .or .u8 (a : Int) (b : Int) = (c : Int) := by
  have h : a ||| b < 2 ^ 6 := Nat.or_lt_two_pow (by omega) (by omega)
  exact ⟨a ||| b, by omega, u8_or_nat a b (by omega) (by omega)⟩
theorem wraps32 (n : Int) (h0 : 0 ≤ n) (h1 : n < 2 ^ 32) : IntKind.u32.wrap n = n := by rw [IntKind.wrap_u32]; omega
theorem wraps64' (n : Int) (h0 : 0 ≤ n) (h1 : n < 2 ^ 64) : IntKind.u64.wrap n = n := by rw [IntKind.wrap_u64]; omega

set_option maxHeartbeats 1000000 in
theorem decLen_any (n : Nat) (w : World) (hn : n ≤ 1099511627776) :
    Calls Tryd.prog 56 #[.int .i64 n, .int .i32 61] w fun r w' => r = .returned (.int .i64 (n / 4 * 3 : Nat)) ∧ w = w' := by
  go_enter Tryd.func56, Tryd.ntmps56
  go_wp2_with fail
  go_ret
  exact ⟨by simp, rfl⟩

set_option maxHeartbeats 1000000 in
theorem decodedLen_any (g n : Nat) (w : World) (hI : IsEnc g 64 w) (hn : n ≤ 1099511627776) :
    Calls Tryd.prog 41 #[.pointer (some ⟨g, 0, none⟩), .int .i64 n] w fun r w' => r = .returned (.int .i64 (n / 4 * 3 : Nat)) ∧ w = w' := by
  have ep : w.cell? ⟨g, 320, none⟩ = some (.int .i32 61) := hI.cell _ _ (ENC_pad _)
  clear hI
  go_enter Tryd.func41, Tryd.ntmps41
  go_wp2_with fail
  refine (decLen_any n w hn).mono ?_
  rintro r w1 ⟨rfl, rfl⟩
  go_wp2_with fail
  go_ret
  exact ⟨rfl, rfl⟩

set_option maxHeartbeats 4000000 in
theorem assemble32_any (a b c d : Nat) (ha : a < 64) (hb : b < 64) (hc : c < 64) (hd : d < 64) (w : World) :
    Calls Tryd.prog 60 #[.int .u8 a, .int .u8 b, .int .u8 c, .int .u8 d] w fun r w' => r = .returned (.tuple #[.int .u32 ((a * 262144 + b * 4096 + c * 64 + d) * 256 : Nat), .bool true]) ∧ w' = w := by
  obtain ⟨o1, k1, q1⟩ := or64 a b ha hb
  obtain ⟨o2, k2, q2⟩ := or64 o1 c k1 hc
  obtain ⟨o3, k3, q3⟩ := or64 o2 d k2 hd
  have b1 : ((o3 : Int) == 255) = false := by rw [beq_eq_false_iff_ne]; omega
  have J1 : bits .or .u32 ((a : Int) * 67108864) ((b : Int) * 1048576) = (a : Int) * 67108864 + (b : Int) * 1048576 := bits_join .u32 32 (by decide) wraps32 26 _ _ (by omega) (by omega) (by omega) (by omega) (by omega) (by omega)
  have J2 : bits .or .u32 ((a : Int) * 67108864 + (b : Int) * 1048576) ((c : Int) * 16384) = (a : Int) * 67108864 + (b : Int) * 1048576 + (c : Int) * 16384 := bits_join .u32 32 (by decide) wraps32 20 _ _ (by omega) (by omega) (by omega) (by omega) (by omega) (by omega)
  have J3 : bits .or .u32 ((a : Int) * 67108864 + (b : Int) * 1048576 + (c : Int) * 16384) ((d : Int) * 256) = (a : Int) * 67108864 + (b : Int) * 1048576 + (c : Int) * 16384 + (d : Int) * 256 := bits_join .u32 32 (by decide) wraps32 14 _ _ (by omega) (by omega) (by omega) (by omega) (by omega) (by omega)
  have HF : Hid (Value.int .u32 (bits .or .u32 (bits .or .u32 (bits .or .u32 ((a : Int) * 67108864) ((b : Int) * 1048576)) ((c : Int) * 16384)) ((d : Int) * 256)) = .int .u32 ((a * 262144 + b * 4096 + c * 64 + d) * 256 : Nat)) := Lib.hid (by rw [J1, J2, J3]; exact congrArg _ (by omega))
  clear J1 J2 J3
  go_enter Tryd.func60, Tryd.ntmps60
  go_wp2_with fail
  go_ret2
  exact ⟨congrArg (fun v => Ending.returned (.tuple #[v, .bool true])) HF.out, rfl⟩

set_option maxHeartbeats 4000000 in
theorem assemble64_any (a b c d e f g h : Nat) (ha : a < 64) (hb : b < 64) (hc : c < 64) (hd : d < 64) (he : e < 64) (hf : f < 64) (hg : g < 64) (hh : h < 64) (w : World) :
    Calls Tryd.prog 57 #[.int .u8 a, .int .u8 b, .int .u8 c, .int .u8 d, .int .u8 e, .int .u8 f, .int .u8 g, .int .u8 h] w fun r w' => r = .returned (.tuple #[.int .u64 ((a * 262144 + b * 4096 + c * 64 + d) * 1099511627776 + (e * 262144 + f * 4096 + g * 64 + h) * 65536 : Nat), .bool true]) ∧ w' = w := by
  obtain ⟨o1, k1, q1⟩ := or64 a b ha hb
  obtain ⟨o2, k2, q2⟩ := or64 o1 c k1 hc
  obtain ⟨o3, k3, q3⟩ := or64 o2 d k2 hd
  obtain ⟨o4, k4, q4⟩ := or64 o3 e k3 he
  obtain ⟨o5, k5, q5⟩ := or64 o4 f k4 hf
  obtain ⟨o6, k6, q6⟩ := or64 o5 g k5 hg
  obtain ⟨o7, k7, q7⟩ := or64 o6 h k6 hh
  have b1 : ((o7 : Int) == 255) = false := by rw [beq_eq_false_iff_ne]; omega
  have J1 : bits .or .u64 ((a : Int) * 288230376151711744) ((b : Int) * 4503599627370496) = (a : Int) * 288230376151711744 + (b : Int) * 4503599627370496 := bits_join .u64 64 (by decide) wraps64' 58 _ _ (by omega) (by omega) (by omega) (by omega) (by omega) (by omega)
  have J2 : bits .or .u64 ((a : Int) * 288230376151711744 + (b : Int) * 4503599627370496) ((c : Int) * 70368744177664) = (a : Int) * 288230376151711744 + (b : Int) * 4503599627370496 + (c : Int) * 70368744177664 := bits_join .u64 64 (by decide) wraps64' 52 _ _ (by omega) (by omega) (by omega) (by omega) (by omega) (by omega)
  have J3 : bits .or .u64 ((a : Int) * 288230376151711744 + (b : Int) * 4503599627370496 + (c : Int) * 70368744177664) ((d : Int) * 1099511627776) = (a : Int) * 288230376151711744 + (b : Int) * 4503599627370496 + (c : Int) * 70368744177664 + (d : Int) * 1099511627776 := bits_join .u64 64 (by decide) wraps64' 46 _ _ (by omega) (by omega) (by omega) (by omega) (by omega) (by omega)
  have J4 : bits .or .u64 ((a : Int) * 288230376151711744 + (b : Int) * 4503599627370496 + (c : Int) * 70368744177664 + (d : Int) * 1099511627776) ((e : Int) * 17179869184) = (a : Int) * 288230376151711744 + (b : Int) * 4503599627370496 + (c : Int) * 70368744177664 + (d : Int) * 1099511627776 + (e : Int) * 17179869184 := bits_join .u64 64 (by decide) wraps64' 40 _ _ (by omega) (by omega) (by omega) (by omega) (by omega) (by omega)
  have J5 : bits .or .u64 ((a : Int) * 288230376151711744 + (b : Int) * 4503599627370496 + (c : Int) * 70368744177664 + (d : Int) * 1099511627776 + (e : Int) * 17179869184) ((f : Int) * 268435456) = (a : Int) * 288230376151711744 + (b : Int) * 4503599627370496 + (c : Int) * 70368744177664 + (d : Int) * 1099511627776 + (e : Int) * 17179869184 + (f : Int) * 268435456 := bits_join .u64 64 (by decide) wraps64' 34 _ _ (by omega) (by omega) (by omega) (by omega) (by omega) (by omega)
  have J6 : bits .or .u64 ((a : Int) * 288230376151711744 + (b : Int) * 4503599627370496 + (c : Int) * 70368744177664 + (d : Int) * 1099511627776 + (e : Int) * 17179869184 + (f : Int) * 268435456) ((g : Int) * 4194304) = (a : Int) * 288230376151711744 + (b : Int) * 4503599627370496 + (c : Int) * 70368744177664 + (d : Int) * 1099511627776 + (e : Int) * 17179869184 + (f : Int) * 268435456 + (g : Int) * 4194304 := bits_join .u64 64 (by decide) wraps64' 28 _ _ (by omega) (by omega) (by omega) (by omega) (by omega) (by omega)
  have J7 : bits .or .u64 ((a : Int) * 288230376151711744 + (b : Int) * 4503599627370496 + (c : Int) * 70368744177664 + (d : Int) * 1099511627776 + (e : Int) * 17179869184 + (f : Int) * 268435456 + (g : Int) * 4194304) ((h : Int) * 65536) = (a : Int) * 288230376151711744 + (b : Int) * 4503599627370496 + (c : Int) * 70368744177664 + (d : Int) * 1099511627776 + (e : Int) * 17179869184 + (f : Int) * 268435456 + (g : Int) * 4194304 + (h : Int) * 65536 := bits_join .u64 64 (by decide) wraps64' 22 _ _ (by omega) (by omega) (by omega) (by omega) (by omega) (by omega)
  have HF : Hid (Value.int .u64 (bits .or .u64 (bits .or .u64 (bits .or .u64 (bits .or .u64 (bits .or .u64 (bits .or .u64 (bits .or .u64 ((a : Int) * 288230376151711744) ((b : Int) * 4503599627370496)) ((c : Int) * 70368744177664)) ((d : Int) * 1099511627776)) ((e : Int) * 17179869184)) ((f : Int) * 268435456)) ((g : Int) * 4194304)) ((h : Int) * 65536)) = .int .u64 ((a * 262144 + b * 4096 + c * 64 + d) * 1099511627776 + (e * 262144 + f * 4096 + g * 64 + h) * 65536 : Nat)) := Lib.hid (by rw [J1, J2, J3, J4, J5, J6, J7]; exact congrArg _ (by omega))
  clear J1 J2 J3 J4 J5 J6 J7
  go_enter Tryd.func57, Tryd.ntmps57
  go_wp2_with fail
  go_ret2
  exact ⟨congrArg (fun v => Ending.returned (.tuple #[v, .bool true])) HF.out, rfl⟩

theorem u8v (i : Int) (k : Nat) (h : i = ((k % 256 : Nat) : Int)) : Value.int .u8 i = Value.int .u8 (UInt8.ofNat k).toNat := by
  rw [h]; simp

set_option maxHeartbeats 8000000 in
set_option maxRecDepth 100000 in
theorem put32_any (g o n cap v : Nat) (w : World) (hv : v < 4294967296) (hn : 4 ≤ n) (hs : ∀ i, i < 4 → (w.cell? ⟨g, o + i, none⟩).isSome = true ∧ w.frozen? ⟨g, o + i, none⟩ = false) :
    Calls Tryd.prog 61 #[.slice (some ⟨g, o, none⟩) n cap, .int .u32 v] w fun r w' => r = .returned (.tuple #[]) ∧ Sc g o w w' ∧ Out g o [UInt8.ofNat (v / 16777216), UInt8.ofNat (v / 65536), UInt8.ofNat (v / 256), UInt8.ofNat (v)] w' := by
  obtain ⟨z0, q0⟩ := Option.isSome_iff_exists.1 (hs 0 (by omega)).1
  obtain ⟨z1, q1⟩ := Option.isSome_iff_exists.1 (hs 1 (by omega)).1
  obtain ⟨z2, q2⟩ := Option.isSome_iff_exists.1 (hs 2 (by omega)).1
  obtain ⟨z3, q3⟩ := Option.isSome_iff_exists.1 (hs 3 (by omega)).1
  replace q0 : w.cell? ⟨g, o, none⟩ = some z0 := q0
  have f0 : w.frozen? ⟨g, o, none⟩ = false := (hs 0 (by omega)).2
  have f1 := (hs 1 (by omega)).2
  have f2 := (hs 2 (by omega)).2
  have f3 := (hs 3 (by omega)).2
  have E0 := Lib.hid (u8v ((v : Int) / 16777216) (v / 16777216) (by omega))
  have E1 := Lib.hid (u8v ((v : Int) / 65536 % 256) (v / 65536) (by omega))
  have E2 := Lib.hid (u8v ((v : Int) / 256 % 256) (v / 256) (by omega))
  have E3 := Lib.hid (u8v ((v : Int) % 256) (v) (by omega))
  have HF := Lib.hid (four (n := 0) (Sc.refl g o w) (l := []) (by intro i x hx; cases hx) 0 rfl (UInt8.ofNat (v / 16777216)) (UInt8.ofNat (v / 65536)) (UInt8.ofNat (v / 256)) (UInt8.ofNat (v)) (fun i hi => by simpa using (hs i (by omega)).1))
  clear hs
  go_enter Tryd.func61, Tryd.ntmps61
  go_wp2_with fail
  go_end0
  rw [E0.out, E1.out, E2.out, E3.out]
  exact ⟨rfl, HF.out⟩

set_option maxHeartbeats 8000000 in
set_option maxRecDepth 100000 in
theorem put64_any (g o n cap v : Nat) (w : World) (hv : v < 18446744073709551616) (hn : 8 ≤ n) (hs : ∀ i, i < 8 → (w.cell? ⟨g, o + i, none⟩).isSome = true ∧ w.frozen? ⟨g, o + i, none⟩ = false) :
    Calls Tryd.prog 58 #[.slice (some ⟨g, o, none⟩) n cap, .int .u64 v] w fun r w' => r = .returned (.tuple #[]) ∧ Sc g o w w' ∧ Out g o [UInt8.ofNat (v / 72057594037927936), UInt8.ofNat (v / 281474976710656), UInt8.ofNat (v / 1099511627776), UInt8.ofNat (v / 4294967296), UInt8.ofNat (v / 16777216), UInt8.ofNat (v / 65536), UInt8.ofNat (v / 256), UInt8.ofNat (v)] w' := by
  obtain ⟨z0, q0⟩ := Option.isSome_iff_exists.1 (hs 0 (by omega)).1
  obtain ⟨z1, q1⟩ := Option.isSome_iff_exists.1 (hs 1 (by omega)).1
  obtain ⟨z2, q2⟩ := Option.isSome_iff_exists.1 (hs 2 (by omega)).1
  obtain ⟨z3, q3⟩ := Option.isSome_iff_exists.1 (hs 3 (by omega)).1
  obtain ⟨z4, q4⟩ := Option.isSome_iff_exists.1 (hs 4 (by omega)).1
  obtain ⟨z5, q5⟩ := Option.isSome_iff_exists.1 (hs 5 (by omega)).1
  obtain ⟨z6, q6⟩ := Option.isSome_iff_exists.1 (hs 6 (by omega)).1
  obtain ⟨z7, q7⟩ := Option.isSome_iff_exists.1 (hs 7 (by omega)).1
  replace q0 : w.cell? ⟨g, o, none⟩ = some z0 := q0
  have f0 : w.frozen? ⟨g, o, none⟩ = false := (hs 0 (by omega)).2
  have f1 := (hs 1 (by omega)).2
  have f2 := (hs 2 (by omega)).2
  have f3 := (hs 3 (by omega)).2
  have f4 := (hs 4 (by omega)).2
  have f5 := (hs 5 (by omega)).2
  have f6 := (hs 6 (by omega)).2
  have f7 := (hs 7 (by omega)).2
  have E0 := Lib.hid (u8v ((v : Int) / 72057594037927936) (v / 72057594037927936) (by omega))
  have E1 := Lib.hid (u8v ((v : Int) / 281474976710656 % 256) (v / 281474976710656) (by omega))
  have E2 := Lib.hid (u8v ((v : Int) / 1099511627776 % 256) (v / 1099511627776) (by omega))
  have E3 := Lib.hid (u8v ((v : Int) / 4294967296 % 256) (v / 4294967296) (by omega))
  have E4 := Lib.hid (u8v ((v : Int) / 16777216 % 256) (v / 16777216) (by omega))
  have E5 := Lib.hid (u8v ((v : Int) / 65536 % 256) (v / 65536) (by omega))
  have E6 := Lib.hid (u8v ((v : Int) / 256 % 256) (v / 256) (by omega))
  have E7 := Lib.hid (u8v ((v : Int) % 256) (v) (by omega))
  have F1 := four (n := 0) (Sc.refl g o w) (l := []) (by intro i x hx; cases hx) 0 rfl (UInt8.ofNat (v / 72057594037927936)) (UInt8.ofNat (v / 281474976710656)) (UInt8.ofNat (v / 1099511627776)) (UInt8.ofNat (v / 4294967296)) (fun i hi => by simpa using (hs i (by omega)).1)
  have HF := Lib.hid (four (n := 0) F1.1 F1.2 1 rfl (UInt8.ofNat (v / 16777216)) (UInt8.ofNat (v / 65536)) (UInt8.ofNat (v / 256)) (UInt8.ofNat (v)) (fun i hi => F1.1.some_ _ (by have := (hs (4 + i) (by omega)).1; simpa using this)))
  clear F1
  clear hs
  go_enter Tryd.func58, Tryd.ntmps58
  go_wp2_with fail
  go_end0
  rw [E0.out, E1.out, E2.out, E3.out, E4.out, E5.out, E6.out, E7.out]
  exact ⟨rfl, HF.out⟩

end Go.Proofs.YtedhgkddfgpfhaaDoor.Da
