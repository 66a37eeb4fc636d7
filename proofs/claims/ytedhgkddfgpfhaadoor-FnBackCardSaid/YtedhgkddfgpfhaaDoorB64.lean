/- In plain Lean, with no program in sight: Base64. -/
namespace Go.Proofs.YtedhgkddfgpfhaaDoor.B64

/-- The sign of a number below 64. -/
def al (i : Nat) : UInt8 := ([65, 66, 67, 68, 69, 70, 71, 72, 73, 74, 75, 76, 77, 78, 79, 80, 81, 82, 83, 84, 85, 86, 87, 88, 89, 90, 97, 98, 99, 100, 101, 102, 103, 104, 105, 106, 107, 108, 109, 110, 111, 112, 113, 114, 115, 116, 117, 118, 119, 120, 121, 122, 48, 49, 50, 51, 52, 53, 54, 55, 56, 57, 43, 47] : List UInt8).getD i 0
/-- The number of a sign when k signs have been laid, or 255. -/
def dm : Nat → Nat → Nat
  | 0, _ => 255
  | k + 1, c => if (al k).toNat = c then k else dm k c
theorem dm_same (k : Nat) : dm (k + 1) (al k).toNat = k := by simp [dm]
theorem dm_other (k c : Nat) (h : (al k).toNat ≠ c) : dm (k + 1) c = dm k c := by simp [dm, h]
set_option maxRecDepth 100000 in
theorem dm_new : ∀ k, k < 64 → dm k (al k).toNat = 255 := by decide +kernel
set_option maxRecDepth 100000 in
theorem dm_al : ∀ i, i < 64 → dm 64 (al i).toNat = i := by decide +kernel
set_option maxRecDepth 100000 in
theorem dm_pad : dm 64 61 = 255 := by decide +kernel
set_option maxRecDepth 100000 in
theorem al_ok : ∀ i, i < 64 → (al i).toNat ≠ 63 ∧ (al i).toNat ≠ 61 ∧ (al i).toNat ≠ 10 ∧ (al i).toNat ≠ 13 := by decide +kernel
theorem dm_le (k c : Nat) (hk : k ≤ 64) : dm k c < 256 := by
  induction k with
  | zero => simp [dm]
  | succ k ih => unfold dm; split
                 · omega
                 · exact ih (by omega)

def w4 (v : Nat) : List UInt8 := [al (v / 262144 % 64), al (v / 4096 % 64), al (v / 64 % 64), al (v % 64)]
/-- Base64 with its padding. -/
def b64 : List UInt8 → List UInt8
  | a :: b :: c :: r => w4 (a.toNat * 65536 + b.toNat * 256 + c.toNat) ++ b64 r
  | [a, b] => [al ((a.toNat * 65536 + b.toNat * 256) / 262144 % 64), al ((a.toNat * 65536 + b.toNat * 256) / 4096 % 64), al ((a.toNat * 65536 + b.toNat * 256) / 64 % 64), 61]
  | [a] => [al (a.toNat * 65536 / 262144 % 64), al (a.toNat * 65536 / 4096 % 64), 61, 61]
  | [] => []

theorem b64_len (l : List UInt8) : (b64 l).length = (l.length + 2) / 3 * 4 := by
  fun_induction b64 l with
  | case1 a b c r ih => rw [List.length_append, ih]; simp [w4]; omega
  | case2 a b => simp
  | case3 a => simp
  | case4 => simp
theorem b64_append (a b : List UInt8) (h : a.length % 3 = 0) : b64 (a ++ b) = b64 a ++ b64 b := by
  fun_induction b64 a with
  | case1 x y z r ih => simp only [List.cons_append, b64, List.append_assoc]; rw [ih (by simp at h; omega)]
  | case2 x y => simp at h
  | case3 x => simp at h
  | case4 => rfl
theorem b64_no (l : List UInt8) : ∀ x ∈ b64 l, x ≠ 63 := by
  have ha : ∀ i, i < 64 → al i ≠ 63 := fun i hi e => (al_ok i hi).1 (by rw [e]; rfl)
  fun_induction b64 l with
  | case1 a b c r ih =>
    intro x hx
    rcases List.mem_append.1 hx with hx | hx
    · simp only [w4, List.mem_cons, List.not_mem_nil, or_false] at hx
      rcases hx with rfl | rfl | rfl | rfl <;> exact ha _ (Nat.mod_lt _ (by omega))
    · exact ih x hx
  | case2 a b =>
    intro x hx
    simp only [List.mem_cons, List.not_mem_nil, or_false] at hx
    rcases hx with rfl | rfl | rfl | rfl
    · exact ha _ (Nat.mod_lt _ (by omega))
    · exact ha _ (Nat.mod_lt _ (by omega))
    · exact ha _ (Nat.mod_lt _ (by omega))
    · decide
  | case3 a =>
    intro x hx
    simp only [List.mem_cons, List.not_mem_nil, or_false] at hx
    rcases hx with rfl | rfl | rfl | rfl
    · exact ha _ (Nat.mod_lt _ (by omega))
    · exact ha _ (Nat.mod_lt _ (by omega))
    · decide
    · decide
  | case4 => intro x hx; cases hx

end Go.Proofs.YtedhgkddfgpfhaaDoor.B64
