/- The walk of consumeMediaParam: at a parameter, at one without a value, at one whose quotation mark is not closed, at a semicolon alone. -/
import Derived.Test.YtbklpdcipfhdjaaGreatDoorO
namespace Go.Proofs.YtbklpdcipfhdjaaGreatDoor.Q
open Go.RowKit Go.Proofs.YtbklpdcipfhdjaaGreatDoor.A Go.Proofs.YtbklpdcipfhdjaaGreatDoor.C Go.Proofs.YtbklpdcipfhdjaaGreatDoor.D Go.Proofs.YtbklpdcipfhdjaaGreatDoor.E Go.Proofs.YtbklpdcipfhdjaaGreatDoor.F Go.Proofs.YtbklpdcipfhdjaaGreatDoor.G Go.Proofs.YtbklpdcipfhdjaaGreatDoor.H Go.Proofs.YtbklpdcipfhdjaaGreatDoor.I Go.Proofs.YtbklpdcipfhdjaaGreatDoor.P Go.Proofs.YtbklpdcipfhdjaaGreatDoor.J Go.Proofs.YtbklpdcipfhdjaaGreatDoor.N Go.Proofs.YtbklpdcipfhdjaaGreatDoor.O

/-- In every world the function gives back this, and what lay in the heap stays. -/
def Gives (f : Nat) (args : Array Value) (v : Value) : Prop := ∀ W : World, Calls Tryz.prog f args W fun e W' => e = .returned v ∧ Below W.heap.size W W'

theorem chain {w W W' : World} (h : Below w.heap.size w W) (h2 : Below W.heap.size W W') : Below w.heap.size w W' :=
  h.trans ⟨h2.os, h2.tape, h2.output, h2.size, fun i hi => h2.block i (Nat.lt_of_lt_of_le hi h.size)⟩

theorem beg_tx (c : UInt8) (r : List UInt8) : begins (tx (c :: r)) c = true := by
  unfold begins
  rw [Lib.toList_data, ext_cut]
  simp [tx]
theorem ext1_tx (c : UInt8) (r : List UInt8) : (tx (c :: r)).extract 1 (tx (c :: r)).size = tx r := by
  apply eq_of_bl
  unfold bl
  rw [ext_all]
  rfl
theorem size_tx (l : List UInt8) : (tx l).size = l.length := by rw [sz]; rfl

theorem g_cut (c : UInt8) (r : List UInt8) (hs : r.length < 1099511627776) : Gives 78 #[.string (tx (c :: r)), .string ⟨#[c]⟩] (.tuple #[.string (tx r), .bool true]) := by
  intro W
  refine (cutPrefix_yes (tx (c :: r)) c W (by rw [size_tx]; simp; omega) (by rw [size_tx]; simp) (beg_tx c r)).mono ?_
  rintro e w' ⟨rfl, rfl⟩
  rw [ext1_tx]
  exact ⟨rfl, Below.refl _ _⟩

set_option maxHeartbeats 1000000 in
set_option maxRecDepth 100000 in
theorem hasPrefix_nil (c : UInt8) (w : World) :
    Calls Tryz.prog 127 #[.string ⟨#[]⟩, .string ⟨#[c]⟩] w fun e w' => e = .returned (.bool false) ∧ w = w' := by
  have hz : (⟨#[c]⟩ : ByteArray).size = 1 := rfl
  have hz0 : (⟨#[]⟩ : ByteArray).size = 0 := rfl
  go_enter Tryz.func127, Tryz.ntmps127
  go_wp2_with fail
  go_ret
  exact ⟨rfl, rfl⟩

set_option maxHeartbeats 1000000 in
set_option maxRecDepth 100000 in
theorem cut109_nil (c : UInt8) (w : World) :
    Calls Tryz.prog 109 #[.string ⟨#[]⟩, .string ⟨#[c]⟩] w fun e w' => e = .returned (.tuple #[.string ⟨#[]⟩, .bool false]) ∧ w = w' := by
  go_enter Tryz.func109, Tryz.ntmps109
  go_wp2_with fail
  refine (hasPrefix_nil c w).mono ?_
  rintro r w1 ⟨rfl, rfl⟩
  go_wp2_with fail
  go_ret2
  exact ⟨rfl, rfl⟩

set_option maxHeartbeats 1000000 in
set_option maxRecDepth 100000 in
theorem g_cutNil (c : UInt8) : Gives 78 #[.string ⟨#[]⟩, .string ⟨#[c]⟩] (.tuple #[.string ⟨#[]⟩, .bool false]) := by
  intro w
  go_enter Tryz.func78, Tryz.ntmps78
  go_wp2_with fail
  refine (cut109_nil c w).mono ?_
  rintro r w1 ⟨rfl, rfl⟩
  go_wp2_with fail
  go_ret2
  exact ⟨rfl, Below.refl _ _⟩

theorem g_trim (s : ByteArray) (b r : List UInt8) (hs : s.size ≤ 1099511627776) (hl : bl s = b ++ r) (hb : b.all blk = true) (hr : ∀ c, r.head? = some c → plain c = true) :
    Gives 51 #[.string s, .func (.func 52) #[] #[]] (.string (tx r)) := fun W => trimLeft_any s b r W hs hl hb hr

theorem toLower_eq (l : List UInt8) : Lib.toLowerA l = l.map low := by
  unfold Lib.toLowerA
  congr 1
  funext c
  have : ∀ n, n < 256 → Lib.lowerB (UInt8.ofNat n) = low (UInt8.ofNat n) := by decide +kernel
  simpa using this c.toNat c.toNat_lt

theorem g_lower (s : ByteArray) (hs : s.size ≤ 1099511627776) (ha : ∀ c ∈ bl s, c.toNat < 128) : Gives 49 #[.string s] (.string (lower s)) := by
  intro W
  have h := Tryz.strings_ToLower_ascii s W (by omega) (fun j b hj => ha b (List.mem_of_getElem? hj))
  rw [toLower_eq] at h
  exact h

theorem g_token (s : ByteArray) (n r : List UInt8) (hs : s.size ≤ 1099511627776) (hl : bl s = n ++ r) (hn : ∀ c ∈ n, tokB c.toNat = true) (hr : ∀ c, r.head? = some c → tokB c.toNat = false) :
    Gives 77 #[.string s] (.tuple #[.string (tx n), .string (tx r)]) := by
  intro W
  refine (consumeToken_any s W hs).mono ?_
  rintro e w' ⟨a, b, rfl, h2, h3, q, rfl⟩
  have htl : tokS s = n.length := by
    have := tl_tok n r hn hr
    unfold tokS; unfold bl at hl; rw [hl]; exact this
  unfold bl at hl
  rw [htl, hl, List.take_left] at h2
  rw [htl, hl, List.drop_left] at h3
  rw [show a = tx n from eq_of_bl h2, show b = tx r from eq_of_bl h3]
  exact ⟨rfl, rfl, rfl, rfl, Nat.le_refl _, fun _ _ => rfl⟩

set_option maxHeartbeats 2000000 in
set_option maxRecDepth 100000 in
theorem param_walk (s s1 s2 s3 n m s4 s5 s6 s7 v r : ByteArray) (h1 : Gives 51 #[.string s, .func (.func 52) #[] #[]] (.string s1)) (h2 : Gives 78 #[.string s1, .string ⟨#[59]⟩] (.tuple #[.string s2, .bool true]))
    (h3 : Gives 51 #[.string s2, .func (.func 52) #[] #[]] (.string s3)) (h4 : Gives 77 #[.string s3] (.tuple #[.string n, .string s4])) (h5 : Gives 49 #[.string n] (.string m)) (hm : m.toList.isEmpty = false)
    (h6 : Gives 51 #[.string s4, .func (.func 52) #[] #[]] (.string s5)) (h7 : Gives 78 #[.string s5, .string ⟨#[61]⟩] (.tuple #[.string s6, .bool true])) (h8 : Gives 51 #[.string s6, .func (.func 52) #[] #[]] (.string s7))
    (h9 : Gives 81 #[.string s7] (.tuple #[.string v, .string r])) (hv : v.toList.isEmpty = false ∨ (r.toList == s7.toList) = false) :
    Gives 53 #[.string s] (.tuple #[.string m, .string v, .string r]) := by
  intro w
  have HV := Lib.hid hv
  clear hv
  go_enter Tryz.func53, Tryz.ntmps53
  go_wp2_with fail
  refine (h1 w).mono ?_
  rintro e w1 ⟨rfl, g1⟩
  go_wp2_with fail
  refine (h2 w1).mono ?_
  rintro e w2 ⟨rfl, g2⟩
  go_wp2_with fail
  refine (h3 w2).mono ?_
  rintro e w3 ⟨rfl, g3⟩
  go_wp2_with fail
  refine (h4 w3).mono ?_
  rintro e w4 ⟨rfl, g4⟩
  go_wp2_with fail
  refine (h5 w4).mono ?_
  rintro e w5 ⟨rfl, g5⟩
  go_wp2_with fail
  refine (h6 w5).mono ?_
  rintro e w6 ⟨rfl, g6⟩
  go_wp2_with fail
  refine (h7 w6).mono ?_
  rintro e w7 ⟨rfl, g7⟩
  go_wp2_with fail
  refine (h8 w7).mono ?_
  rintro e w8 ⟨rfl, g8⟩
  go_wp2_with fail
  refine (h9 w8).mono ?_
  rintro e w9 ⟨rfl, g9⟩
  have G : Hid (Below w.heap.size w w9) := Lib.hid (chain (chain (chain (chain (chain (chain (chain (chain g1 g2) g3) g4) g5) g6) g7) g8) g9)
  clear g1 g2 g3 g4 g5 g6 g7 g8 g9
  cases hve : v.toList.isEmpty with
  | false =>
    go_wp2_with fail
    go_ret3
    exact ⟨rfl, G.out⟩
  | true =>
    have hr : (r.toList == s7.toList) = false := by rcases HV.out with h | h; rw [h] at hve; cases hve; exact h
    go_wp2_with fail
    go_ret3
    exact ⟨rfl, G.out⟩

set_option maxHeartbeats 2000000 in
set_option maxRecDepth 100000 in
theorem param_none (s s1 s2 s3 n m s4 : ByteArray) (h1 : Gives 51 #[.string s, .func (.func 52) #[] #[]] (.string s1)) (h2 : Gives 78 #[.string s1, .string ⟨#[59]⟩] (.tuple #[.string s2, .bool true])) (h3 : Gives 51 #[.string s2, .func (.func 52) #[] #[]] (.string s3)) (h4 : Gives 77 #[.string s3] (.tuple #[.string n, .string s4])) (h5 : Gives 49 #[.string n] (.string m)) (hm : m.toList.isEmpty = true) :
    Gives 53 #[.string s] (.tuple #[.string ⟨#[]⟩, .string ⟨#[]⟩, .string s]) := by
  intro w
  go_enter Tryz.func53, Tryz.ntmps53
  go_wp2_with fail
  refine (h1 w).mono ?_
  rintro e w1 ⟨rfl, g1⟩
  go_wp2_with fail
  refine (h2 w1).mono ?_
  rintro e w2 ⟨rfl, g2⟩
  go_wp2_with fail
  refine (h3 w2).mono ?_
  rintro e w3 ⟨rfl, g3⟩
  go_wp2_with fail
  refine (h4 w3).mono ?_
  rintro e w4 ⟨rfl, g4⟩
  go_wp2_with fail
  refine (h5 w4).mono ?_
  rintro e w5 ⟨rfl, g5⟩
  have G : Hid (Below w.heap.size w w5) := Lib.hid (chain (chain (chain (chain g1 g2) g3) g4) g5)
  clear g1 g2 g3 g4 g5
  go_wp2_with fail
  go_ret3
  exact ⟨rfl, G.out⟩

set_option maxHeartbeats 2000000 in
set_option maxRecDepth 100000 in
theorem param_bare (s s1 s2 s3 n m s4 s5 s6 : ByteArray) (h1 : Gives 51 #[.string s, .func (.func 52) #[] #[]] (.string s1)) (h2 : Gives 78 #[.string s1, .string ⟨#[59]⟩] (.tuple #[.string s2, .bool true])) (h3 : Gives 51 #[.string s2, .func (.func 52) #[] #[]] (.string s3)) (h4 : Gives 77 #[.string s3] (.tuple #[.string n, .string s4])) (h5 : Gives 49 #[.string n] (.string m)) (h6 : Gives 51 #[.string s4, .func (.func 52) #[] #[]] (.string s5)) (h7 : Gives 78 #[.string s5, .string ⟨#[61]⟩] (.tuple #[.string s6, .bool false])) (hm : m.toList.isEmpty = false) :
    Gives 53 #[.string s] (.tuple #[.string ⟨#[]⟩, .string ⟨#[]⟩, .string s]) := by
  intro w
  go_enter Tryz.func53, Tryz.ntmps53
  go_wp2_with fail
  refine (h1 w).mono ?_
  rintro e w1 ⟨rfl, g1⟩
  go_wp2_with fail
  refine (h2 w1).mono ?_
  rintro e w2 ⟨rfl, g2⟩
  go_wp2_with fail
  refine (h3 w2).mono ?_
  rintro e w3 ⟨rfl, g3⟩
  go_wp2_with fail
  refine (h4 w3).mono ?_
  rintro e w4 ⟨rfl, g4⟩
  go_wp2_with fail
  refine (h5 w4).mono ?_
  rintro e w5 ⟨rfl, g5⟩
  go_wp2_with fail
  refine (h6 w5).mono ?_
  rintro e w6 ⟨rfl, g6⟩
  go_wp2_with fail
  refine (h7 w6).mono ?_
  rintro e w7 ⟨rfl, g7⟩
  have G : Hid (Below w.heap.size w w7) := Lib.hid (chain (chain (chain (chain (chain (chain g1 g2) g3) g4) g5) g6) g7)
  clear g1 g2 g3 g4 g5 g6 g7
  go_wp2_with fail
  go_ret3
  exact ⟨rfl, G.out⟩

set_option maxHeartbeats 2000000 in
set_option maxRecDepth 100000 in
theorem param_open (s s1 s2 s3 n m s4 s5 s6 s7 : ByteArray) (h1 : Gives 51 #[.string s, .func (.func 52) #[] #[]] (.string s1)) (h2 : Gives 78 #[.string s1, .string ⟨#[59]⟩] (.tuple #[.string s2, .bool true])) (h3 : Gives 51 #[.string s2, .func (.func 52) #[] #[]] (.string s3)) (h4 : Gives 77 #[.string s3] (.tuple #[.string n, .string s4])) (h5 : Gives 49 #[.string n] (.string m)) (h6 : Gives 51 #[.string s4, .func (.func 52) #[] #[]] (.string s5)) (h7 : Gives 78 #[.string s5, .string ⟨#[61]⟩] (.tuple #[.string s6, .bool true])) (h8 : Gives 51 #[.string s6, .func (.func 52) #[] #[]] (.string s7)) (h9 : Gives 81 #[.string s7] (.tuple #[.string ⟨#[]⟩, .string s7])) (hm : m.toList.isEmpty = false) :
    Gives 53 #[.string s] (.tuple #[.string ⟨#[]⟩, .string ⟨#[]⟩, .string s]) := by
  intro w
  go_enter Tryz.func53, Tryz.ntmps53
  go_wp2_with fail
  refine (h1 w).mono ?_
  rintro e w1 ⟨rfl, g1⟩
  go_wp2_with fail
  refine (h2 w1).mono ?_
  rintro e w2 ⟨rfl, g2⟩
  go_wp2_with fail
  refine (h3 w2).mono ?_
  rintro e w3 ⟨rfl, g3⟩
  go_wp2_with fail
  refine (h4 w3).mono ?_
  rintro e w4 ⟨rfl, g4⟩
  go_wp2_with fail
  refine (h5 w4).mono ?_
  rintro e w5 ⟨rfl, g5⟩
  go_wp2_with fail
  refine (h6 w5).mono ?_
  rintro e w6 ⟨rfl, g6⟩
  go_wp2_with fail
  refine (h7 w6).mono ?_
  rintro e w7 ⟨rfl, g7⟩
  go_wp2_with fail
  refine (h8 w7).mono ?_
  rintro e w8 ⟨rfl, g8⟩
  go_wp2_with fail
  refine (h9 w8).mono ?_
  rintro e w9 ⟨rfl, g9⟩
  have G : Hid (Below w.heap.size w w9) := Lib.hid (chain (chain (chain (chain (chain (chain (chain (chain g1 g2) g3) g4) g5) g6) g7) g8) g9)
  clear g1 g2 g3 g4 g5 g6 g7 g8 g9
  go_wp2_with fail
  go_ret3
  exact ⟨rfl, G.out⟩

theorem all_low (l : List UInt8) : (tx (l.map low)).size = l.length := by rw [size_tx, List.length_map]
theorem lower_size (s : ByteArray) : (lower s).size = s.size := by
  rw [sz, sz]; unfold bl lower; simp
theorem plain_head {n r : List UInt8} (h : ∀ c ∈ n, tokB c.toNat = true) (h0 : 0 < n.length) : ∀ c, (n ++ r).head? = some c → plain c = true := by
  intro c hc
  cases n with
  | nil => simp at h0
  | cons d n => simp at hc; subst hc; exact plain_tok (h d (by simp))

/-- A parameter as it is written. -/
theorem param_ok (s : ByteArray) (x : Wn) (rest : List UInt8) (hs : s.size ≤ 1099511627776) (hl : bl s = Wn.text x ++ rest) (hx : Writ x) (hr : x.quoted = true ∨ ∀ c, rest.head? = some c → tokB c.toNat = false) :
    Gives 53 #[.string s] (.tuple #[.string (lower x.name), .string x.value, .string (tx rest)]) := by
  obtain ⟨n0, nt⟩ := tok_all hx.name
  obtain ⟨c, vr, hv, hcp⟩ := val_head hx
  have hsz : s.size = (bl x.ahead).length + ((bl x.behind).length + ((bl x.name).length + ((Wn.val x).length + 1)) + 1) + rest.length := by
    rw [sz, hl]; unfold Wn.text; simp; omega
  have hn2 := sz x.name
  have hb2 := sz x.behind
  have ha2 := sz x.ahead
  have e1 : bl s = bl x.ahead ++ (59 :: (bl x.behind ++ (bl x.name ++ 61 :: (Wn.val x ++ rest)))) := by rw [hl]; unfold Wn.text; simp
  refine param_walk s (tx (59 :: (bl x.behind ++ (bl x.name ++ 61 :: (Wn.val x ++ rest))))) (tx (bl x.behind ++ (bl x.name ++ 61 :: (Wn.val x ++ rest)))) (tx (bl x.name ++ 61 :: (Wn.val x ++ rest))) x.name (lower x.name) (tx (61 :: (Wn.val x ++ rest))) (tx (61 :: (Wn.val x ++ rest))) (tx (Wn.val x ++ rest)) (tx (Wn.val x ++ rest)) x.value (tx rest)
    (g_trim s _ _ hs e1 hx.ahead (by intro d hd; simp at hd; subst hd; decide))
    (g_cut 59 _ (by simp; omega))
    (g_trim _ _ _ (by rw [size_tx]; simp; omega) (bl_tx _) hx.behind (plain_head nt n0))
    (g_token _ _ _ (by rw [size_tx]; simp; omega) (bl_tx _) nt (by intro d hd; simp at hd; subst hd; decide))
    (g_lower _ (by rw [sz]; omega) (fun d hd => by have := nt d hd; simp [tokB] at this; omega))
    (emp_no (by rw [lower_size, sz]; exact n0))
    (g_trim _ [] _ (by rw [size_tx]; simp; omega) (bl_tx _) rfl (by intro d hd; simp at hd; subst hd; decide))
    (g_cut 61 _ (by simp; omega))
    (g_trim _ [] _ (by rw [size_tx]; simp; omega) (bl_tx _) rfl (by intro d hd; rw [hv] at hd; simp at hd; subst hd; exact hcp))
    ?_ ?_
  · have hsx : (tx (Wn.val x ++ rest)).size ≤ 1099511627776 := by rw [size_tx]; simp; omega
    intro W
    by_cases hq : x.quoted = true
    · exact value_quoted _ (bl x.value) rest W hsx (by rw [bl_tx]; unfold Wn.val; rw [if_pos hq]) hx.print
    · have ht : isTok x.value = true := by rcases hx.val with h | h; exact absurd h hq; exact h
      obtain ⟨v0, vt⟩ := tok_all ht
      exact value_token _ (bl x.value) rest W hsx (by rw [bl_tx]; unfold Wn.val; rw [if_neg hq]) v0 vt (by rcases hr with h | h; exact absurd h hq; exact h)
  · right
    rw [beq_eq_false_iff_ne, Lib.toList_data, Lib.toList_data]
    intro e
    have h3 : rest.length = (Wn.val x ++ rest).length := congrArg List.length e
    rw [hv] at h3
    simp at h3
    omega

/-- A parameter without a value. -/
theorem param_noValue (s : ByteArray) (a b : List UInt8) (n : ByteArray) (hs : s.size ≤ 1099511627776) (hl : bl s = a ++ 59 :: (b ++ bl n)) (ha : a.all blk = true) (hb : b.all blk = true) (hn : isTok n = true) :
    Gives 53 #[.string s] (.tuple #[.string ⟨#[]⟩, .string ⟨#[]⟩, .string s]) := by
  obtain ⟨n0, nt⟩ := tok_all hn
  have hsz : s.size = a.length + (b.length + (bl n).length + 1) := by rw [sz, hl]; simp
  have hn2 := sz n
  refine param_bare s (tx (59 :: (b ++ bl n))) (tx (b ++ bl n)) n n (lower n) ⟨#[]⟩ ⟨#[]⟩ ⟨#[]⟩
    (g_trim s _ _ hs hl ha (by intro d hd; simp at hd; subst hd; decide))
    (g_cut 59 _ (by simp; omega))
    (g_trim _ _ _ (by rw [size_tx]; simp; omega) (bl_tx _) hb (by have := plain_head (r := []) nt n0; simpa using this))
    (g_token n (bl n) [] (by rw [sz]; omega) (by simp) nt (by simp))
    (g_lower _ (by rw [sz]; omega) (fun d hd => by have := nt d hd; simp [tokB] at this; omega))
    (g_trim ⟨#[]⟩ [] [] (by decide) rfl rfl (by simp))
    (g_cutNil 61)
    (emp_no (by rw [lower_size, sz]; exact n0))

/-- A semicolon alone. -/
theorem param_semi (s : ByteArray) (a b : List UInt8) (hs : s.size ≤ 1099511627776) (hl : bl s = a ++ 59 :: b) (ha : a.all blk = true) (hb : b.all blk = true) :
    Gives 53 #[.string s] (.tuple #[.string ⟨#[]⟩, .string ⟨#[]⟩, .string s]) := by
  have hsz : s.size = a.length + (b.length + 1) := by rw [sz, hl]; simp
  refine param_none s (tx (59 :: b)) (tx b) ⟨#[]⟩ ⟨#[]⟩ (lower ⟨#[]⟩) ⟨#[]⟩
    (g_trim s _ _ hs hl ha (by intro d hd; simp at hd; subst hd; decide))
    (g_cut 59 _ (by omega))
    (g_trim (tx b) b [] (by rw [size_tx]; omega) (by rw [bl_tx, List.append_nil]) hb (by simp))
    (g_token ⟨#[]⟩ [] [] (by decide) rfl (by simp) (by simp))
    (g_lower _ (by decide) (fun d hd => absurd (show d ∈ ([] : List UInt8) from hd) (by simp)))
    (emp_yes (by rw [lower_size]; rfl))

/-- A parameter whose quotation mark is not closed. -/
theorem param_unclosed (s : ByteArray) (a b val : List UInt8) (n : ByteArray) (hs : s.size ≤ 1099511627776) (hl : bl s = a ++ 59 :: (b ++ (bl n ++ 61 :: (34 :: qb val)))) (ha : a.all blk = true) (hb : b.all blk = true) (hn : isTok n = true) (hv : val.all okb = true) :
    Gives 53 #[.string s] (.tuple #[.string ⟨#[]⟩, .string ⟨#[]⟩, .string s]) := by
  obtain ⟨n0, nt⟩ := tok_all hn
  have hsz : s.size = a.length + (b.length + ((bl n).length + ((qb val).length + 2)) + 1) := by rw [sz, hl]; simp
  have hn2 := sz n
  refine param_open s (tx (59 :: (b ++ (bl n ++ 61 :: (34 :: qb val))))) (tx (b ++ (bl n ++ 61 :: (34 :: qb val)))) (tx (bl n ++ 61 :: (34 :: qb val))) n (lower n) (tx (61 :: (34 :: qb val))) (tx (61 :: (34 :: qb val))) (tx (34 :: qb val)) (tx (34 :: qb val))
    (g_trim s _ _ hs hl ha (by intro d hd; simp at hd; subst hd; decide))
    (g_cut 59 _ (by simp; omega))
    (g_trim _ _ _ (by rw [size_tx]; simp; omega) (bl_tx _) hb (plain_head nt n0))
    (g_token _ _ _ (by rw [size_tx]; simp; omega) (bl_tx _) nt (by intro d hd; simp at hd; subst hd; decide))
    (g_lower _ (by rw [sz]; omega) (fun d hd => by have := nt d hd; simp [tokB] at this; omega))
    (g_trim _ [] _ (by rw [size_tx]; simp; omega) (bl_tx _) rfl (by intro d hd; simp at hd; subst hd; decide))
    (g_cut 61 _ (by simp; omega))
    (g_trim _ [] _ (by rw [size_tx]; simp; omega) (bl_tx _) rfl (by intro d hd; simp at hd; subst hd; decide))
    (fun W => value_open _ val W (by rw [size_tx]; simp; omega) (bl_tx _) hv)
    (emp_no (by rw [lower_size, sz]; exact n0))

end Go.Proofs.YtbklpdcipfhdjaaGreatDoor.Q
