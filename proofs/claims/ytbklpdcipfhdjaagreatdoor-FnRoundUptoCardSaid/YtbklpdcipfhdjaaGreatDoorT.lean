/- The walk of ParseMediaType over parameters without asterisks. -/
import Derived.Test.YtbklpdcipfhdjaaGreatDoorS
import Derived.Maps.StringElems
namespace Go.Proofs.YtbklpdcipfhdjaaGreatDoor.T
open Go.RowKit Go.Maps Go.ChangeMaps Go.WideMaps Go.Proofs.YtbklpdcipfhdjaaGreatDoor.A Go.Proofs.YtbklpdcipfhdjaaGreatDoor.C Go.Proofs.YtbklpdcipfhdjaaGreatDoor.D Go.Proofs.YtbklpdcipfhdjaaGreatDoor.E Go.Proofs.YtbklpdcipfhdjaaGreatDoor.F Go.Proofs.YtbklpdcipfhdjaaGreatDoor.G Go.Proofs.YtbklpdcipfhdjaaGreatDoor.H Go.Proofs.YtbklpdcipfhdjaaGreatDoor.I Go.Proofs.YtbklpdcipfhdjaaGreatDoor.P Go.Proofs.YtbklpdcipfhdjaaGreatDoor.J Go.Proofs.YtbklpdcipfhdjaaGreatDoor.N Go.Proofs.YtbklpdcipfhdjaaGreatDoor.O Go.Proofs.YtbklpdcipfhdjaaGreatDoor.Q Go.Proofs.YtbklpdcipfhdjaaGreatDoor.R Go.Proofs.YtbklpdcipfhdjaaGreatDoor.S

/-- What may stand behind a parameter: nothing, or blanks and a semicolon. -/
def RestOk (r : List UInt8) : Prop := r = [] ∨ ∃ a q, r = a ++ 59 :: q ∧ a.all blk = true
theorem RestOk.head {r : List UInt8} (h : RestOk r) : ∀ c, r.head? = some c → tokB c.toNat = false := by
  intro c hc
  rcases h with rfl | ⟨a, q, rfl, ha⟩
  · simp at hc
  · cases a with
    | nil => simp at hc; subst hc; decide
    | cons d a =>
      simp at hc; subst hc
      rw [List.all_cons, Bool.and_eq_true] at ha
      have := ha.1
      simp [blk] at this
      rcases this with rfl | rfl <;> decide
theorem texts_cons (x : Wn) (l : List Wn) : texts (x :: l) = Wn.text x ++ texts l := by simp [texts]
theorem restOk_texts {l : List Wn} {tail : List UInt8} (hl : ∀ x ∈ l, Writ x) (ht : RestOk tail) : RestOk (texts l ++ tail) := by
  cases l with
  | nil => exact ht
  | cons x l =>
    right
    refine ⟨bl x.ahead, bl x.behind ++ (bl x.name ++ 61 :: Wn.val x) ++ (texts l ++ tail), ?_, (hl x (by simp)).ahead⟩
    rw [texts_cons]; unfold Wn.text; simp

/-- A parameter without the blanks ahead of it. -/
def bare (x : Wn) : Wn := { x with ahead := ⟨#[]⟩ }
theorem bare_writ {x : Wn} (h : Writ x) : Writ (bare x) := ⟨rfl, h.behind, h.print, h.val, h.name⟩
theorem bare_text (x : Wn) : Wn.text x = bl x.ahead ++ Wn.text (bare x) := by
  unfold Wn.text bare Wn.val; simp [bl]
theorem bare_head (x : Wn) : ∃ q, Wn.text (bare x) = 59 :: q := ⟨_, by unfold Wn.text bare; simp [bl]; rfl⟩

/-- The key of a parameter in the map. -/
def keyL (x : Wn) : Lit := .string (bl (lower x.name))
/-- The map of the parameters so far. -/
def Dn (l : List Wn) : DataW Unit := l.foldl (fun m x => m.put (keyL x) (.lit (.string (bl x.value)))) (.map [])
theorem Dn_snoc (l : List Wn) (x : Wn) : Dn (l ++ [x]) = (Dn l).put (keyL x) (.lit (.string (bl x.value))) := by simp [Dn]
theorem Dn_has (l : List Wn) (x : Wn) (h : ∀ y ∈ l, lower y.name ≠ lower x.name) : Maps.has (Dn l) (keyL x) = false := by
  suffices hs : ∀ (l : List Wn) (m : DataW Unit), (∀ y ∈ l, lower y.name ≠ lower x.name) → Maps.has m (keyL x) = false → Maps.has (l.foldl (fun m x => m.put (keyL x) (.lit (.string (bl x.value)))) m) (keyL x) = false by
    exact hs l _ h rfl
  intro l
  induction l with
  | nil => intro m _ hm; exact hm
  | cons y l ih =>
    intro m hy hm
    refine ih _ (fun z hz => hy z (by simp [hz])) ?_
    rw [has_put_other, hm]
    intro e
    apply hy y (by simp)
    unfold keyL at e
    simp only [Lit.string.injEq] at e
    exact (eq_of_bl e).symm

theorem law : Keyed Tryz.prog 9 := string_keyed Tryz.underlying9
theorem zeroE (w : World) : (zeroValue 9).run Tryz.prog w = .ok (.string ⟨#[]⟩) w := by kernel_rfl

theorem hkey (s : ByteArray) (h : s.size ≤ 1099511627776) : keyOf Tryz.prog 9 (.string s) = some (.string (bl s)) := keyOf_string_mk Tryz.underlying9 (by unfold maxLen; omega)

/-- The names are apart in small letters, and hold no asterisk. -/
structure Apart (l : List Wn) : Prop where
  writ : ∀ x ∈ l, Writ x
  star : ∀ x ∈ l, (42 : UInt8) ∉ bl x.name
  apart : (l.map fun x => lower x.name).Nodup

theorem owns_below {w w' : World} {b n : Nat} {D : DataW Unit} (h : w.ownsMap Tryz.prog 9 (plainElem Tryz.prog 9) b n D) (hb : Below w.heap.size w w') : w'.ownsMap Tryz.prog 9 (plainElem Tryz.prog 9) b n D :=
  h.kept (row := none) ⟨hb.os, hb.tape, hb.output, hb.size, fun i hi _ => hb.block i hi⟩ (by simp)

/-- After some of the parameters: what the map in block B holds. -/
structure Mp (B : Nat) (pre : List Wn) (w wr : World) : Prop where
  owns : wr.ownsMap Tryz.prog 9 (plainElem Tryz.prog 9) B pre.length (Dn pre)
  below : Below w.heap.size w wr
  ge : w.heap.size ≤ B
theorem Mp.next {B : Nat} {pre : List Wn} {w wr wr' : World} (h : Mp B pre w wr) (hb : Below wr.heap.size wr wr') : Mp B pre w wr' := ⟨owns_below h.owns hb, chain h.below hb, h.ge⟩
theorem Mp.look {B : Nat} {pre : List Wn} {w wr : World} (h : Mp B pre w wr) (x : Wn) (hx : ∀ y ∈ pre, lower y.name ≠ lower x.name) (hs : (lower x.name).size ≤ 1099511627776) :
    ∃ v : ByteArray, (Instr.lookup 52 (.map (some B)) (.string (lower x.name)) true).run Tryz.prog wr = .ok (.tuple #[.string v, .bool false]) wr := by
  obtain ⟨v, ps, hr, hv⟩ := h.owns.look_ok law Tryz.underlying52 (zeroE _) (plainElem_string Tryz.underlying9 (by decide)) (hkey _ hs)
  obtain ⟨c, rfl, _⟩ := plainElem_string_inv Tryz.underlying9 hv
  rw [show Maps.has (Dn pre) (.string (bl (lower x.name))) = false from Dn_has pre x hx] at hr
  exact ⟨c, hr⟩
theorem Mp.store {B : Nat} {pre : List Wn} {w wr : World} (h : Mp B pre w wr) (x : Wn) (hs : (lower x.name).size ≤ 1099511627776) (hv : x.value.size ≤ 1099511627776) (hn : pre.length < maxLen) :
    ∃ w', (Instr.mapUpdate 52 (.map (some B)) (.string (lower x.name)) (.string x.value)).run Tryz.prog wr = .ok () w' ∧ Mp B (pre ++ [x]) w w' := by
  obtain ⟨w', hr, ho, hg⟩ := h.owns.update law Tryz.underlying52 hn (hkey _ hs) (plainElem_string (H := Unit) Tryz.underlying9 (s := x.value) (by unfold maxLen; omega))
  refine ⟨w', hr, ?_, ?_, h.ge⟩
  · rw [Dn_snoc, List.length_append]; exact ho
  · exact h.below.grown hg h.below.size (fun j hj => by cases hj; exact h.ge)

theorem tx_size_pos {c : UInt8} {l : List UInt8} : 0 < (tx (c :: l)).size := by rw [size_tx]; simp

/-- Some blanks at the beginning of a rest have been left out. -/
def Behind (r V : List UInt8) : Prop := ∃ A, A.all blk = true ∧ r = A ++ V
theorem Behind.part {a Z : List UInt8} (ha : a.all blk = true) : ∀ {V : List UInt8}, Behind (a ++ 59 :: Z) V → ∃ A, A.all blk = true ∧ V = A ++ 59 :: Z := by
  rintro V ⟨A, hA, e⟩
  induction a generalizing A with
  | nil =>
    cases A with
    | nil => exact ⟨[], rfl, e.symm⟩
    | cons c A =>
      simp only [List.nil_append, List.cons_append, List.cons.injEq] at e
      rw [List.all_cons, Bool.and_eq_true, ← e.1] at hA
      exact absurd hA.1 (by decide)
  | cons c a ih =>
    rw [List.all_cons, Bool.and_eq_true] at ha
    cases A with
    | nil => exact ⟨c :: a, by rw [List.all_cons, ha.1, ha.2]; rfl, e.symm⟩
    | cons d A =>
      simp only [List.cons_append, List.cons.injEq] at e
      rw [List.all_cons, Bool.and_eq_true] at hA
      exact ih ha.2 A hA.2 e.2
theorem Behind.nil {V : List UInt8} (h : Behind [] V) : V = [] := by
  obtain ⟨A, _, e⟩ := h
  exact (List.append_eq_nil_iff.1 e.symm).2
theorem Behind.refl (r : List UInt8) : Behind r r := ⟨[], rfl, rfl⟩

/-- The head of ParseMediaType: the base's end, and what stands behind it. -/
structure HeadOk (e0 e1 : Value) (s t base lw V : ByteArray) (aft : ByteArray) (ok : Bool) : Prop where
  cut : Gives 47 #[.string s, .string ⟨#[59]⟩] (.tuple #[.string base, .string aft, .bool ok])
  lows : Gives 49 #[.string base] (.string lw)
  trim : GivesE e0 e1 48 #[.string lw] (.string (lower t))
  check : Gives 50 #[.string (lower t)] .nilIface
  drop : s.extract base.size s.size = V
  le : base.size ≤ s.size

theorem lower_bl (s : ByteArray) : bl (lower s) = (bl s).map low := rfl
theorem head_ok (e0 e1 : Value) (s t : ByteArray) (A r : List UInt8) (hs : s.size ≤ 1099511627776) (ht : isType t = true) (hl : bl s = bl t ++ (A ++ r)) (hA : A.all blk = true) (hr : r = [] ∧ A = [] ∨ ∃ q, r = 59 :: q) :
    ∃ base low aft ok, HeadOk e0 e1 s t base low (tx r) aft ok := by
  have hT := (typeL_iff t).1 ht
  obtain ⟨t0, tall⟩ := hT.all
  have hTl := hT.low
  obtain ⟨l0, lall⟩ := hTl.all
  have hle : (bl t ++ A).length ≤ s.size := by rw [sz, hl]; simp
  have hsz : (tx (bl t ++ A)).size ≤ 1099511627776 := by rw [size_tx]; omega
  have htsz : t.size ≤ 1099511627776 := by rw [sz]; simp at hle; simp; omega
  have hlow : bl (lower (tx (bl t ++ A))) = (bl t).map low ++ A := by
    rw [lower_bl, bl_tx, List.map_append]
    congr 1
    have : ∀ l : List UInt8, l.all blk = true → l.map low = l := by
      intro l; induction l with
      | nil => intro _; rfl
      | cons c l ih => intro h; rw [List.all_cons, Bool.and_eq_true] at h; rw [List.map_cons, low_blk h.1, ih h.2]
    exact this A hA
  refine ⟨tx (bl t ++ A), lower (tx (bl t ++ A)), if r = [] then ⟨#[]⟩ else tx r.tail, !(r == []), ?_, ?_, ?_, ?_, ?_, ?_⟩
  · have hn : (59 : UInt8) ∉ bl t ++ A := by
      intro h
      rcases List.mem_append.1 h with h | h
      · exact (tall _ h).2 rfl
      · exact absurd (List.all_eq_true.1 hA _ h) (by decide)
    rcases hr with ⟨rfl, rfl⟩ | ⟨q, rfl⟩
    · have := g_cutNo s 59 hs (by rw [hl]; simpa using hn)
      rw [List.append_nil]
      rw [show tx (bl t) = s from eq_of_bl (by rw [hl, bl_tx]; simp)]
      simpa using this
    · have := g_cutAt s 59 (bl t ++ A) q hs (by rw [hl]; simp) hn
      simpa using this
  · refine g_lower _ hsz ?_
    intro c hc
    rw [bl_tx] at hc
    rcases List.mem_append.1 hc with h | h
    · exact okb_lt (okb_plain (tall c h).1)
    · exact okb_lt (okb_blk (List.all_eq_true.1 hA c h))
  · have := g_trimSpace (e0 := e0) (e1 := e1) (lower (tx (bl t ++ A))) ((bl t).map low) A (by rw [lower_size]; exact hsz) hlow (List.all_eq_true.2 fun c hc => okb_plain (lall c hc).1) hA
      (fun c hc => (lall c (List.mem_of_head? hc)).1) (fun c hc => (lall c (List.mem_of_getLast? hc)).1) l0
    rw [← lower_bl] at this
    exact this
  · exact g_check _ (by rw [lower_size]; exact htsz) ((typeL_iff _).2 hTl)
  · exact drop_k (p := bl t ++ A) (by rw [hl]; simp) (size_tx _)
  · rw [size_tx]; exact hle

theorem texts_len (l : List Wn) : l.length ≤ (texts l).length := by
  induction l with
  | nil => simp
  | cons x l ih => rw [texts_cons, List.length_append, List.length_cons]; have : 1 ≤ (Wn.text x).length := by unfold Wn.text; simp; omega
                   omega

set_option maxHeartbeats 400000 in
set_option maxRecDepth 100000 in
/-- At an error of a parameter. -/
theorem parse_err (e0 e1 : Value) (s t : ByteArray) (l : List Wn) (a R : List UInt8) (u : ByteArray) (w : World) (hE : Env e0 e1 w) (hs : s.size ≤ 1099511627776) (hl : bl s = bl t ++ (texts l ++ (a ++ 59 :: R))) (ht : isType t = true) (hx : Apart l) (ha : a.all blk = true)
    (h53 : Gives 53 #[.string (tx (59 :: R))] (.tuple #[.string ⟨#[]⟩, .string ⟨#[]⟩, .string (tx (59 :: R))])) (h48 : GivesE e0 e1 48 #[.string (tx (59 :: R))] (.string u)) (hu : (u.toList == (⟨#[59]⟩ : ByteArray).toList) = false) :
    Calls Tryz.prog 35 #[.string s] w fun e w' => e = .returned (.tuple #[.string (lower t), .map none, e0]) ∧ Below w.heap.size w w' := by
  obtain ⟨A, q, hA, hAb⟩ : ∃ A q, texts l ++ (a ++ 59 :: R) = A ++ 59 :: q ∧ A.all blk = true := by
    rcases restOk_texts hx.writ (tail := a ++ 59 :: R) (.inr ⟨a, R, rfl, ha⟩) with h | h
    · simp at h
    · exact h
  obtain ⟨base, low0, aft, ok, hH⟩ := head_ok e0 e1 s t A (59 :: q) hs ht (by rw [hl, hA]) hAb (.inr ⟨q, rfl⟩)
  have HV : Hid (Behind (texts l ++ (a ++ 59 :: R)) (59 :: q)) := Lib.hid ⟨A, hAb, hA⟩
  have hsz2 : (texts l ++ (a ++ 59 :: R)).length ≤ 1099511627776 := by have := sz s; rw [hl, List.length_append] at this; omega
  have HSZ := Lib.hid hsz2
  have HX := Lib.hid hx
  have HA := Lib.hid ha
  have HU : (u.toList == [59]) = false := by rw [show ([59] : List UInt8) = (⟨#[59]⟩ : ByteArray).toList by rw [Lib.toList_data]]; exact hu
  have HD := hH.drop
  have HLE := hH.le
  have HE := Lib.hid hE
  generalize hV0 : tx (59 :: q) = V0 at *
  have HV0 := Lib.hid hV0
  clear hl hA hAb hsz2 hx ha hV0 ht hE
  have hmm := @run_makeMap Tryz.prog
  go_enter Tryz.func35, Tryz.ntmps35
  go_wp2_with fail
  refine (hH.cut w).mono ?_
  rintro e w1 ⟨rfl, g1⟩
  go_wp2_with fail
  refine (hH.lows w1).mono ?_
  rintro e w2 ⟨rfl, g2⟩
  go_wp2_with fail
  refine (hH.trim w2 ((HE.out.below g1).below g2)).mono ?_
  rintro e w3 ⟨rfl, g3⟩
  go_wp2_with fail
  refine (hH.check w3).mono ?_
  rintro e w4 ⟨rfl, g4⟩
  have G4 : Hid (Below w.heap.size w w4) := Lib.hid (chain (chain (chain g1 g2) g3) g4)
  clear g1 g2 g3 g4
  go_wp2_with fail
  have HM : Hid (Mp w4.heap.size [] w (w4.alloc (.map #[] 0))) := Lib.hid ⟨World.ownsMap_made _ _ _ _, G4.out.alloc G4.out.size _, G4.out.size⟩
  have HGE : Hid (w.heap.size ≤ w4.heap.size) := Lib.hid G4.out.size
  generalize w4.alloc (.map #[] 0) = w5 at *
  generalize w4.heap.size = B at *
  go_loopg [0, 2, 3, 4, 8] l.length (fun gk v v2 v3 v4 v8 wr => ∃ pre suf : List Wn, ∃ V : List UInt8, gk = suf.length ∧ v = .string (tx V) ∧ v2 = .string (lower t) ∧ v3 = .map (some B) ∧ v4 = .nilIface ∧ v8 = .map none ∧ Hid (l = pre ++ suf ∧ Behind (texts suf ++ (a ++ 59 :: R)) V) ∧ Hid (Mp B pre w wr))
  case atStart => exact ⟨[], l, _, rfl, by rw [HV0.out], rfl, rfl, rfl, rfl, Lib.hid ⟨rfl, HV.out⟩, HM⟩
  case round =>
    obtain ⟨pre, suf, V, rfl, rfl, rfl, rfl, rfl, rfl, HL, HP⟩ := hrel
    have hEr : Env e0 e1 wr := HE.out.below HP.out.below
    have HEr := Lib.hid hEr
    clear hEr
    cases suf with
    | nil =>
      obtain ⟨A2, hA2, rfl⟩ := HL.out.2.part HA.out
      have hvs : (tx (A2 ++ 59 :: R)).size ≤ 1099511627776 := by
        obtain ⟨A3, _, e⟩ := HL.out.2
        have h1 := congrArg List.length e
        have h2 := HSZ.out
        rw [HL.out.1] at h2
        rw [size_tx]
        simp [texts] at h1 h2
        simp
        omega
      have hv0 : 0 < (tx (A2 ++ 59 :: R)).size := by rw [size_tx]; simp; omega
      have ht := g_trim (tx (A2 ++ 59 :: R)) A2 (59 :: R) hvs (bl_tx _) hA2 (by intro d hd; simp at hd; subst hd; decide)
      have hz0 : 0 < (tx (59 :: R)).size := tx_size_pos
      generalize tx (A2 ++ 59 :: R) = v0 at *
      generalize tx (59 :: R) = v1 at *
      have he0 : v1.toList.isEmpty = false := emp_no hz0
      clear hA2 hvs
      go_wp2_with fail
      refine (ht wr).mono ?_
      rintro e x1 ⟨rfl, g1⟩
      go_wp2_with fail
      refine (h53 x1).mono ?_
      rintro e x2 ⟨rfl, g2⟩
      go_wp2_with fail
      refine (h48 x2 ((HEr.out.below g1).below g2)).mono ?_
      rintro e x3 ⟨rfl, g3⟩
      have hc : x3.cell? ⟨0, 0, none⟩ = some e0 := (((HEr.out.below g1).below g2).below g3).err
      have G : Hid (Below w.heap.size w x3) := Lib.hid (chain HP.out.below (chain (chain g1 g2) g3))
      clear g1 g2 g3
      go_wp2_with fail
      go_quiet (fail)
      go_wp2_with fail
      go_ret3
      exact ⟨rfl, G.out.os, G.out.tape, G.out.output, G.out.size, G.out.block⟩
    | cons x suf =>
      have hxw : Writ x := HX.out.writ x (by rw [HL.out.1]; simp)
      have hsuf : ∀ y ∈ suf, Writ y := fun y hy => HX.out.writ y (by rw [HL.out.1]; simp [hy])
      have hrest : RestOk (texts suf ++ (a ++ 59 :: R)) := restOk_texts hsuf (.inr ⟨a, R, rfl, HA.out⟩)
      obtain ⟨Z, hZ⟩ := bare_head x
      have hB : Behind (bl x.ahead ++ 59 :: (Z ++ (texts suf ++ (a ++ 59 :: R)))) V := by
        have := HL.out.2
        rw [texts_cons, bare_text, hZ] at this
        simpa using this
      obtain ⟨A2, hA2, rfl⟩ := hB.part hxw.ahead
      have hvl : (tx (A2 ++ 59 :: (Z ++ (texts suf ++ (a ++ 59 :: R))))).size ≤ 1099511627776 := by
        obtain ⟨A3, _, e⟩ := HL.out.2
        have h1 := congrArg List.length e
        have h2 := HSZ.out
        rw [HL.out.1] at h2
        rw [size_tx]
        simp [texts] at h1 h2
        simp [texts]
        omega
      have hvz : (tx (59 :: (Z ++ (texts suf ++ (a ++ 59 :: R))))).size ≤ 1099511627776 := by
        rw [size_tx] at hvl ⊢
        simp at hvl ⊢
        omega
      have hv0 : 0 < (tx (A2 ++ 59 :: (Z ++ (texts suf ++ (a ++ 59 :: R))))).size := by rw [size_tx]; simp; omega
      have ht := g_trim _ A2 (59 :: (Z ++ (texts suf ++ (a ++ 59 :: R)))) hvl (bl_tx _) hA2 (by intro d hd; simp at hd; subst hd; decide)
      have hz0 : 0 < (tx (59 :: (Z ++ (texts suf ++ (a ++ 59 :: R))))).size := tx_size_pos
      have hp := param_ok _ (bare x) (texts suf ++ (a ++ 59 :: R)) hvz (by rw [bl_tx, hZ]; simp) (bare_writ hxw) (.inr hrest.head)
      have hnl : (bl x.name).length ≤ 1099511627776 := by
        rw [size_tx] at hvz
        have := congrArg List.length hZ
        unfold Wn.text bare at this
        have h4 := sz x.name
        simp at this hvz
        omega
      have hns : (lower x.name).size ≤ 1099511627776 := by rw [lower_size, sz]; exact hnl
      have hvs : x.value.size ≤ 1099511627776 := by
        rw [size_tx] at hvz
        have := congrArg List.length hZ
        unfold Wn.text bare Wn.val at this
        have h3 := qb_length_ge (bl x.value)
        have h4 := sz x.value
        simp at this hvz
        split at this <;> simp [quoteL] at this <;> omega
      have hst : (42 : UInt8) ∉ bl (lower x.name) := by
        rw [lower_bl]
        intro h
        obtain ⟨d, hd, e⟩ := List.mem_map.1 h
        exact HX.out.star x (by rw [HL.out.1]; simp) (low42 d e ▸ hd)
      have hcut := g_cutNo (lower x.name) 42 hns hst
      have hke : (lower x.name).toList.isEmpty = false := emp_no (by rw [lower_size, sz]; exact (tok_all hxw.name).1)
      have hpre : ∀ y ∈ pre, lower y.name ≠ lower x.name := by
        have := HX.out.apart
        rw [HL.out.1, List.map_append, List.map_cons] at this
        intro y hy e
        exact (List.nodup_append.1 this).2.2 _ (List.mem_map.2 ⟨y, hy, rfl⟩) _ (by simp) e
      have hpl : pre.length < maxLen := by
        have h2 := HSZ.out
        rw [HL.out.1] at h2
        have h5 : pre.length ≤ (texts pre).length := texts_len pre
        simp [texts] at h2 h5
        unfold maxLen
        omega
      have HN : Hid (∀ W, Mp B (pre ++ [x]) w W → ∃ pre suf' : List Wn, ∃ V : List UInt8, suf.length = suf'.length ∧ Value.string (tx (texts suf ++ (a ++ 59 :: R))) = .string (tx V) ∧ Hid (l = pre ++ suf' ∧ Behind (texts suf' ++ (a ++ 59 :: R)) V) ∧ Hid (Mp B pre w W)) :=
        Lib.hid fun W hW => ⟨pre ++ [x], suf, _, rfl, rfl, Lib.hid ⟨by rw [HL.out.1]; simp, Behind.refl _⟩, Lib.hid hW⟩
      have HPRE := Lib.hid hpre
      clear hxw hsuf hrest hB hA2 hvl hvz hnl hst hpre hZ HL
      generalize tx (A2 ++ 59 :: (Z ++ (texts suf ++ (a ++ 59 :: R)))) = v0 at *
      generalize tx (59 :: (Z ++ (texts suf ++ (a ++ 59 :: R)))) = v1 at *
      generalize tx (texts suf ++ (a ++ 59 :: R)) = v2 at *
      have hp2 : Gives 53 #[.string v1] (.tuple #[.string (lower x.name), .string x.value, .string v2]) := hp
      clear hp
      go_wp2_with fail
      refine (ht wr).mono ?_
      rintro e x1 ⟨rfl, g1⟩
      go_wp2_with fail
      refine (hp2 x1).mono ?_
      rintro e x2 ⟨rfl, g2⟩
      go_wp2_with fail
      refine (hcut x2).mono ?_
      rintro e x3 ⟨rfl, g3⟩
      have hP3 : Mp B pre w x3 := HP.out.next (chain (chain g1 g2) g3)
      obtain ⟨vv, hlook⟩ := hP3.look x HPRE.out hns
      obtain ⟨W, hst, hW⟩ := hP3.store x hns hvs hpl
      have G := Lib.hid (HN.out W hW)
      clear hW hP3 g1 g2 g3 HN HPRE
      go_wp2_with fail
      go_roundg suf.length
      case measure => simp
      case rel =>
        obtain ⟨p1, s1, V1, q1, q2, q3, q4⟩ := G.out
        exact ⟨p1, s1, V1, q1, q2, rfl, rfl, rfl, rfl, q3, q4⟩

end Go.Proofs.YtbklpdcipfhdjaaGreatDoor.T
