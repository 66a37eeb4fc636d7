/- The second loop of ParseMediaType: what holds between its rounds, and within one. The walk of ParseMediaType over parameters whose names may hold asterisks, to its good end. -/
import Derived.Test.YtbklpdcipfhdjaaGreatDoorRd
import Derived.Test.YtbklpdcipfhdjaaGreatDoorPk
namespace Go.Proofs.YtbklpdcipfhdjaaGreatDoor.Lp
open Go.RowKit Go.Maps Go.ChangeMaps Go.WideMaps Go.Proofs.YtbklpdcipfhdjaaGreatDoor.A Go.Proofs.YtbklpdcipfhdjaaGreatDoor.D Go.Proofs.YtbklpdcipfhdjaaGreatDoor.E Go.Proofs.YtbklpdcipfhdjaaGreatDoor.F Go.Proofs.YtbklpdcipfhdjaaGreatDoor.G Go.Proofs.YtbklpdcipfhdjaaGreatDoor.H Go.Proofs.YtbklpdcipfhdjaaGreatDoor.J Go.Proofs.YtbklpdcipfhdjaaGreatDoor.P Go.Proofs.YtbklpdcipfhdjaaGreatDoor.Q Go.Proofs.YtbklpdcipfhdjaaGreatDoor.R Go.Proofs.YtbklpdcipfhdjaaGreatDoor.S Go.Proofs.YtbklpdcipfhdjaaGreatDoor.T Go.Proofs.YtbklpdcipfhdjaaGreatDoor.W Go.Proofs.YtbklpdcipfhdjaaGreatDoor.Bd Go.Proofs.YtbklpdcipfhdjaaGreatDoor.Pe Go.Proofs.YtbklpdcipfhdjaaGreatDoor.Cm Go.Proofs.YtbklpdcipfhdjaaGreatDoor.It Go.Proofs.YtbklpdcipfhdjaaGreatDoor.Pm Go.Proofs.YtbklpdcipfhdjaaGreatDoor.Gp Go.Proofs.YtbklpdcipfhdjaaGreatDoor.Rd

/-- What a base gives. -/
abbrev fin (X : ByteArray → List UInt8) (c : Ct) : Pr := (c.1, tx (X c.1))
/-- What does not turn. -/
structure S0 (w0 : World) (Bp b : Nat) (E : List Pr) (cs : List Ct) (D : DataW Unit) : Prop where
  dO : DO D cs
  names : (cs.map (·.1)).Nodup
  ge : w0.heap.size ≤ b
  small : E.length + cs.length < maxLen
  apart : ∀ c ∈ cs, ∀ p ∈ E, p.1 ≠ c.1
/-- Between the rounds, but for the builder. -/
structure S2 (w0 wr : World) (Bp Bc r cnt : Nat) (D : DataW Unit) (left : Lit → Bool) (E : List Pr) (cs ds : List Ct) (X : ByteArray → List UInt8) : Prop where
  rng : wr.ranges Tryz.prog 9 R68 Bc r cs.length D left cnt
  ro : RO cs left ds
  par : PM w0 wr Bp (E ++ ds.map (fin X))
  inn : ∀ c ∈ cs, OM wr c.2.1 c.2.2
  ge : w0.heap.size ≤ r
/-- Within a round, at base c. -/
structure S3 (w0 wr : World) (Bp Bc r cnt : Nat) (D : DataW Unit) (left : Lit → Bool) (E : List Pr) (cs ds : List Ct) (X : ByteArray → List UInt8) (c : Ct) : Prop where
  rng : wr.ranges Tryz.prog 9 R68 Bc r cs.length D left cnt
  ro : RO cs left (ds ++ [c])
  par : PM w0 wr Bp (E ++ ds.map (fin X))
  inn : ∀ c ∈ cs, OM wr c.2.1 c.2.2
  ge : w0.heap.size ≤ r
  mem : c ∈ cs
  new : ∀ d ∈ ds, d.1 ≠ c.1
theorem ds_len {cs ds : List Ct} {left : Lit → Bool} (h : RO cs left ds) : ds.length ≤ cs.length :=
  Pk.len_le ds cs ((List.pairwise_map.1 h.nodup).imp fun hne e => hne (congrArg Prod.fst e)) (fun c hc => (h.sub c hc).1)
theorem S3.km {w0 wr wr' : World} {Bp Bc r cnt : Nat} {D : DataW Unit} {left : Lit → Bool} {E : List Pr} {cs ds : List Ct} {X : ByteArray → List UInt8} {c : Ct} (h : S3 w0 wr Bp Bc r cnt D left E cs ds X c) (hk : KM w0.heap.size wr wr') : S3 w0 wr' Bp Bc r cnt D left E cs ds X c :=
  ⟨ranges_mk h.rng hk.maps, h.ro, PM.km h.par hk, fun c hc => om_mk (h.inn c hc) hk.maps, h.ge, h.mem, h.new⟩
theorem grown_ne {w w' : World} {r : Nat} (hg : w.grownBy w' (some r)) {k : Nat} {o o' : Obj} (hk : w.heap[k]? = some o) (hr : w.heap[r]? = some o') (hne : o ≠ o') : w'.heap[k]? = some o := by
  rw [hg.block k (lt_of hk) ?_]
  · exact hk
  · intro e
    rw [Option.some.inj e, hr] at hk
    exact hne (Option.some.inj hk).symm
/-- The step of the range. -/
theorem S2.step {w0 wr w3 : World} {Bp Bc r cnt cnt1 b : Nat} {D : DataW Unit} {left : Lit → Bool} {E : List Pr} {cs ds : List Ct} {X : ByteArray → List UInt8} {m : List UInt8} (h : S2 w0 wr Bp Bc r cnt D left E cs ds X) (h0 : S0 w0 Bp b E cs D) (hB : Bd b b m wr) {x : ByteArray} {o : Option Nat} {y : DataW Unit × List MemPlace}
    (hl : left (.string (bl x)) = true) (hv : R68 (.map o) = some y) (hat : ∀ zd, D.atKey (.string (bl x)) zd = y.1) (hrg : w3.ranges Tryz.prog 9 R68 Bc r cs.length D (fun z => left z && !z.sameKey (.string (bl x))) cnt1) (hg : wr.grownBy w3 (some r)) :
    ∃ c, c.1 = x ∧ o = some c.2.1 ∧ S3 w0 w3 Bp Bc r cnt1 D (fun z => left z && !z.sameKey (.string (bl x))) E cs ds X c ∧ Bd b b m w3 := by
  obtain ⟨c, hc, e1, e2, hnew, hro⟩ := h.ro.step h0.dO h0.names hl hv hat
  obtain ⟨es, clock, since, seen, c0, hb, F, hs, hD, hr, rest⟩ := h.rng
  refine ⟨c, e1, e2, ⟨hrg, hro, ⟨?_, h.par.ge, h.par.below.grown hg h.par.below.size (fun j hj => by cases hj; exact h.ge)⟩, fun d hd => ?_, h.ge, hc, hnew⟩, bd_kept hB hg (fun g hg c T fz => by cases hg; rw [hr]; simp)⟩
  · obtain ⟨es2, cl2, hm⟩ := om_map h.par.om
    refine h.par.om.kept hg (fun e => ?_)
    rw [Option.some.inj e, hr] at hm
    cases hm
  · obtain ⟨es2, cl2, hm⟩ := om_map (h.inn d hd)
    refine (h.inn d hd).kept hg (fun e => ?_)
    rw [Option.some.inj e, hr] at hm
    cases hm
/-- The store at the end of a round. -/
theorem S3.put {w0 wr : World} {Bp Bc r cnt b : Nat} {D : DataW Unit} {left : Lit → Bool} {E : List Pr} {cs ds : List Ct} {X : ByteArray → List UInt8} {c : Ct} {m : List UInt8} (h : S3 w0 wr Bp Bc r cnt D left E cs ds X c) (h0 : S0 w0 Bp b E cs D) (hB : Bd b b m wr) (hne : Bc ≠ Bp) (hin : ∀ c ∈ cs, c.2.1 ≠ Bp)
    (hs : c.1.size ≤ 1099511627776) (hx : (X c.1).length ≤ 1099511627776) :
    ∃ W, (Instr.mapUpdate 52 (.map (some Bp)) (.string c.1) (.string (tx (X c.1)))).run Tryz.prog wr = .ok () W ∧ S2 w0 W Bp Bc r cnt D left E cs (ds ++ [c]) X ∧ Bd b b m W ∧ W.rangeLeft Bc r = cnt := by
  have hap : ∀ q ∈ E ++ ds.map (fin X), q.1 ≠ (fin X c).1 := by
    intro q hq
    rcases List.mem_append.1 hq with hq | hq
    · exact h0.apart c h.mem q hq
    · obtain ⟨d, hd, rfl⟩ := List.mem_map.1 hq
      exact h.new d hd
  have hlen : (E ++ ds.map (fin X)).length < maxLen := by
    have h1 := ds_len h.ro
    have h2 := h0.small
    rw [List.length_append] at h1 ⊢
    rw [List.length_map]
    simp at h1
    omega
  obtain ⟨W, hr, hP, _, hg⟩ := h.par.store (fin X c) hap hs (by rw [size_tx]; exact hx) hlen
  obtain ⟨es2, cl2, hm⟩ := om_map h.par.om
  have hrne : r ≠ Bp := by
    obtain ⟨es, clock, since, seen, c0, hb, F, hs, hD, hr', rest⟩ := h.rng
    intro e
    rw [e, hm] at hr'
    cases hr'
  have hrg : W.ranges Tryz.prog 9 R68 Bc r cs.length D left cnt := h.rng.kept hg (fun e => hne (Option.some.inj e)) (fun e => hrne (Option.some.inj e))
  refine ⟨W, hr, ⟨hrg, h.ro, by rw [List.map_append, ← List.append_assoc]; exact hP, fun d hd => (h.inn d hd).kept hg (fun e => hin d hd (Option.some.inj e)), h.ge⟩, bd_kept hB hg (fun g hg c T fz => by cases hg; rw [hm]; simp), hrg.left_eq⟩
end Go.Proofs.YtbklpdcipfhdjaaGreatDoor.Lp

namespace Go.Proofs.YtbklpdcipfhdjaaGreatDoor.Pa
open Go.RowKit Go.Maps Go.ChangeMaps Go.WideMaps Go.Proofs.YtbklpdcipfhdjaaGreatDoor.A Go.Proofs.YtbklpdcipfhdjaaGreatDoor.D Go.Proofs.YtbklpdcipfhdjaaGreatDoor.E Go.Proofs.YtbklpdcipfhdjaaGreatDoor.F Go.Proofs.YtbklpdcipfhdjaaGreatDoor.G Go.Proofs.YtbklpdcipfhdjaaGreatDoor.H Go.Proofs.YtbklpdcipfhdjaaGreatDoor.J Go.Proofs.YtbklpdcipfhdjaaGreatDoor.P Go.Proofs.YtbklpdcipfhdjaaGreatDoor.Q Go.Proofs.YtbklpdcipfhdjaaGreatDoor.R Go.Proofs.YtbklpdcipfhdjaaGreatDoor.S Go.Proofs.YtbklpdcipfhdjaaGreatDoor.T Go.Proofs.YtbklpdcipfhdjaaGreatDoor.W Go.Proofs.YtbklpdcipfhdjaaGreatDoor.Bd Go.Proofs.YtbklpdcipfhdjaaGreatDoor.Pe Go.Proofs.YtbklpdcipfhdjaaGreatDoor.Cm Go.Proofs.YtbklpdcipfhdjaaGreatDoor.It Go.Proofs.YtbklpdcipfhdjaaGreatDoor.Pm Go.Proofs.YtbklpdcipfhdjaaGreatDoor.Gp Go.Proofs.YtbklpdcipfhdjaaGreatDoor.Rd Go.Proofs.YtbklpdcipfhdjaaGreatDoor.Tk Go.Proofs.YtbklpdcipfhdjaaGreatDoor.Lp

theorem eqm_none (w : World) : (binOp .eql 68 (.map none) (.map none)).run Tryz.prog w = .ok (.bool true) w := by kernel_rfl
theorem eqm_some (B : Nat) (w : World) : (binOp .eql 68 (.map (some B)) (.map none)).run Tryz.prog w = .ok (.bool false) w := by kernel_rfl

theorem app_size (a b : ByteArray) : (a ++ b).size = a.size + b.size := ByteArray.size_append
theorem k1_le {b : ByteArray} (h : b.size ≤ 1099511627000) : (k1 b).size ≤ 1099511627776 := by
  have : (⟨#[42]⟩ : ByteArray).size = 1 := rfl
  rw [app_size]; omega
theorem kn_le {b : ByteArray} (n : Nat) (h : b.size ≤ 1099511627000) : (kn b n).size ≤ 1099511627776 := by
  have : (⟨#[42]⟩ : ByteArray).size = 1 := rfl
  have := num_size n
  rw [app_size, app_size]; omega
theorem ke_le {b : ByteArray} (n : Nat) (h : b.size ≤ 1099511627000) : (ke b n).size ≤ 1099511627776 := by
  have : (⟨#[42]⟩ : ByteArray).size = 1 := rfl
  have := num_size n
  rw [app_size, app_size, app_size]; omega

set_option maxHeartbeats 1000000 in
set_option maxRecDepth 100000 in
theorem parse_all (e0 e1 : Value) (s t : ByteArray) (l : List Wn) (X : ByteArray → List UInt8) (w : World) (hE : Env e0 e1 w) (hs : s.size ≤ 1099511627776) (hl : bl s = bl t ++ texts l) (ht : isType t = true) (hx : Nm l)
    (hSt : ∀ g ∈ groups l, St g.2 g.1 (X g.1)) (hdis : ∀ g ∈ groups l, ∀ p ∈ plains l, p.1 ≠ g.1) (hbs : ∀ g ∈ groups l, g.1.size ≤ 1099511627000) :
    Calls Tryz.prog 35 #[.string s] w fun e w' => ∃ B E, e = .returned (.tuple #[.string (lower t), .map (some B), .nilIface]) ∧ PM w w' B E ∧ E.Perm (plains l ++ (groups l).map fun g => (g.1, tx (X g.1))) := by
  obtain ⟨A, r, hA, hAb, hr⟩ : ∃ A r, texts l = A ++ r ∧ A.all blk = true ∧ (r = [] ∧ A = [] ∨ ∃ q, r = 59 :: q) := by
    have h0 := restOk_texts hx.writ (tail := []) (.inl rfl)
    rw [List.append_nil] at h0
    rcases h0 with h | ⟨A, q, h1, h2⟩
    · exact ⟨[], [], h, rfl, .inl ⟨rfl, rfl⟩⟩
    · exact ⟨A, 59 :: q, h1, h2, .inr ⟨q, rfl⟩⟩
  obtain ⟨base, low0, aft, ok, hH⟩ := head_ok e0 e1 s t A r hs ht (by rw [hl, hA]) hAb hr
  have HV : Hid (Behind (texts l) r) := Lib.hid ⟨A, hAb, hA⟩
  have hsz2 : (texts l).length ≤ 1099511627776 := by have := sz s; rw [hl, List.length_append] at this; omega
  have HSZ := Lib.hid hsz2
  have HX := Lib.hid hx
  have HST := Lib.hid hSt
  have HDI := Lib.hid hdis
  have HBS := Lib.hid hbs
  have HD := hH.drop
  have HLE := hH.le
  have HE := Lib.hid hE
  generalize hV0 : tx r = V0 at *
  have HV0 := Lib.hid hV0
  clear hl hA hAb hsz2 hx hV0 ht hE hr hSt hdis hbs
  have hmm := @run_makeMap Tryz.prog
  have hrn : ∀ W : World, (Instr.range 68 (.map none)).run Tryz.prog W = _ := fun W => run_range_nilMap (P := Tryz.prog) W 68 9 52 Tryz.underlying68
  go_enter Tryz.func35, Tryz.ntmps35
  go_wp2_with fail
  refine (hH.cut w).mono ?_
  rintro e w1 ⟨rfl, g1⟩
  go_wp2_with fail
  refine (hH.lows w1).mono ?_
  rintro e w2 ⟨rfl, g2⟩
  go_wp2_with fail
  refine (hH.trim w2 ((HE.out.below g1).below g2)).mono ?_
  rintro e w3 ⟨rfl, g3⟩
  go_wp2_with fail
  refine (hH.check w3).mono ?_
  rintro e w4 ⟨rfl, g4⟩
  have G4 : Hid (Below w.heap.size w w4) := Lib.hid (chain (chain (chain g1 g2) g3) g4)
  clear g1 g2 g3 g4
  go_wp2_with fail
  have HM : Hid (L1 w (w4.alloc (.map #[] 0)) w4.heap.size [] none []) := Lib.hid (L1.start G4.out)
  generalize w4.alloc (.map #[] 0) = w5 at *
  generalize w4.heap.size = B at *
  go_loopg [0, 2, 3, 4, 8] l.length (fun gk v v2 v3 v4 v8 wr => ∃ pre suf : List Wn, ∃ V : List UInt8, ∃ oc : Option Nat, gk = suf.length ∧ v = .string (tx V) ∧ v2 = .string (lower t) ∧ v3 = .map (some B) ∧ v4 = .nilIface ∧ v8 = .map oc ∧ Hid (l = pre ++ suf ∧ Behind (texts suf) V) ∧ Hid (∃ cs, L1 w wr B pre oc cs))
  case atStart => exact ⟨[], l, _, none, rfl, by rw [HV0.out], rfl, rfl, rfl, rfl, Lib.hid ⟨rfl, HV.out⟩, Lib.hid ⟨_, HM.out⟩⟩
  case round =>
    obtain ⟨pre, suf, V, oc, rfl, rfl, rfl, rfl, rfl, rfl, HL, HP⟩ := hrel
    cases suf with
    | nil =>
      have hV : V = [] := HL.out.2.nil
      subst hV
      have hll : l = pre := by have := HL.out.1; rw [List.append_nil] at this; exact this
      subst hll
      have hz : (tx []).size = 0 := rfl
      generalize tx [] = v0 at *
      cases oc with
      | none =>
        have G : Hid (∃ B' E, Value.map (some B) = .map (some B') ∧ PM w ((wr.alloc (.cells #[.pointer none, .slice none 0 0] 77)).alloc (.mapIter none 0 #[] 0)) B' E ∧ E.Perm (plains l ++ (groups l).map fun g => (g.1, tx (X g.1)))) := Lib.hid (by
          obtain ⟨cs, hP⟩ := HP.out
          have h0 : cs = [] := by
            rcases hP.cmap with ⟨_, h⟩ | ⟨_, h, _⟩
            · exact h
            · cases h
          refine ⟨B, _, rfl, (hP.par.next ((Below.refl _ wr).alloc (Nat.le_refl _) _)).next ((Below.refl _ _).alloc (Nat.le_refl _) _), ?_⟩
          rw [← hP.er, h0]
          simp [er])
        have hn1 := next_nil wr
        go_wp2_with fail
        refine wp_loop_rounds 1 ?_
        rw [rounds_succ]
        go_wp2_with fail
        go_ret3
        obtain ⟨B', E', q1, q2, q3⟩ := G.out
        exact ⟨B', E', by rw [← q1]; rfl, q2, q3⟩
      | some Bc =>
        obtain ⟨cs, hP⟩ := HP.out
        have hal : Below wr.heap.size wr (wr.alloc (.cells #[.pointer none, .slice none 0 0] 77)) := (Below.refl _ wr).alloc (Nat.le_refl _) _
        have hC : CM w wr B Bc cs := by
          rcases hP.cmap with ⟨h, _⟩ | ⟨_, h, h2⟩
          · cases h
          · cases h; exact h2
        have hCa := hC.next hal
        have hPa := hP.par.next hal
        obtain ⟨D, hown, hDO⟩ := hCa.outer
        have hbd := fresh wr
        have hgr : ∀ c ∈ cs, (c.1, c.2.2) ∈ groups l := fun c hc => by rw [← hP.er]; exact List.mem_map.2 ⟨c, hc, rfl⟩
        have HS0 : Hid (S0 w B wr.heap.size (plains l) cs D) := Lib.hid ⟨hDO, hC.names, hP.par.below.size, by
          have h1 := plains_len l
          have h2 := groups_len l
          have h3 := texts_len l
          have h4 := HSZ.out
          have h5 : cs.length = (groups l).length := by rw [← hP.er, er_len]
          unfold maxLen
          omega, fun c hc => HDI.out _ (hgr c hc)⟩
        have HST2 : Hid (∀ c ∈ cs, St c.2.2 c.1 (X c.1)) := Lib.hid fun c hc => HST.out _ (hgr c hc)
        have HBS2 : Hid (∀ c ∈ cs, c.1.size ≤ 1099511627000) := Lib.hid fun c hc => HBS.out _ (hgr c hc)
        have HNE : Hid (Bc ≠ B ∧ ∀ c ∈ cs, c.2.1 ≠ B) := Lib.hid ⟨hC.neP, fun c hc => (hC.inner c hc).2.2.1⟩
        have HPa := Lib.hid hPa
        have HIN : Hid (∀ c ∈ cs, OM (wr.alloc (.cells #[.pointer none, .slice none 0 0] 77)) c.2.1 c.2.2) := Lib.hid fun c hc => (hCa.inner c hc).1
        have HBd := Lib.hid hbd
        have HER := Lib.hid hP.er
        have hbw : w.heap.size ≤ wr.heap.size := hP.par.below.size
        clear hP hC hCa hPa hDO hbd hgr hal
        go_wp2_with (at_range; refine wpList_range_own _ rfl _ 68 rfl 9 52 law Tryz.underlying68 _ Bc cs.length D rfl hown ?_; intro w2 hrg0 hg2 hs2)
        go_frame
        have HS2 : Hid (S2 w w2 B Bc (wr.alloc (.cells #[.pointer none, .slice none 0 0] 77)).heap.size (Maps.size D) D (Maps.has D) (plains l) cs [] X) := Lib.hid ⟨hrg0, RO.start HS0.out.dO, by simpa using HPa.out.next ⟨hg2.os, hg2.tape, hg2.output, hg2.size, fun i hi => hg2.block i hi (by simp)⟩, fun c hc => (HIN.out c hc).kept hg2 (by simp), by simp; omega⟩
        have HBd2 : Hid (∃ m, Bd wr.heap.size wr.heap.size m w2) := Lib.hid ⟨_, bd_kept HBd.out hg2 (fun g hg => by cases hg)⟩
        have hge2 : wr.heap.size ≤ w2.heap.size := by rw [hs2]; simp; omega
        clear hrg0 hown hg2 hs2 HPa HIN HBd
        generalize (wr.alloc (.cells #[.pointer none, .slice none 0 0] 77)).heap.size = r at *
        generalize wr.heap.size = b at *
        go_loopw [] (fun wr => ∃ (ds : List Ct) (left : Lit → Bool) (cnt : Nat), Hid (S2 w wr B Bc r cnt D left (plains l) cs ds X) ∧ Hid (∃ m, Bd b b m wr) ∧ b ≤ wr.heap.size) (fun wr => wr.rangeLeft Bc r)
        case atStart => exact ⟨[], _, _, HS2, HBd2, hge2⟩
        case round =>
          clear HS2 HBd2 hge2
          obtain ⟨ds, left, cnt, HS, HBd, hge⟩ := hrel
          have hrg := HS.out.rng
          have hmeas := hrg.left_eq
          go_wp2_with (at_next; refine wpList_next_ranges _ rfl _ rfl 9 law R68 Value.string Value.map (fun key kl hkey => by obtain ⟨s, rfl, _⟩ := Go.WideMaps.string_of_keyOf Tryz.underlying9 hkey; exact ⟨s, rfl⟩) (fun v y hv => R68_inv hv) Bc r cs.length D left cnt rfl hrg ?_ ?_)
          · intro _ hl0
            have G : Hid (∃ B' E, Value.map (some B) = .map (some B') ∧ PM w wr B' E ∧ E.Perm (plains l ++ (groups l).map fun g => (g.1, tx (X g.1)))) := Lib.hid (by
              refine ⟨B, _, rfl, HS.out.par, List.Perm.append (List.Perm.refl _) ?_⟩
              have h1 := (HS.out.ro.done HS0.out.names hl0).map (fin X)
              rw [← HER.out]
              unfold er
              rw [List.map_map]
              exact h1)
            clear hrg hl0
            go_wp2_with fail
            go_ret3
            obtain ⟨B', E', q1, q2, q3⟩ := G.out
            exact ⟨B', E', by rw [← q1]; rfl, q2, q3⟩
          · intro x c1 kl y1 y2 w3 cnt1 hkey hlk hv hat hrg1 hlt hg1 hs1 hen
            obtain ⟨xs, ex, rfl, hxs⟩ := Go.WideMaps.string_of_keyOf Tryz.underlying9 hkey
            cases ex
            obtain ⟨m, hbd⟩ := HBd.out
            obtain ⟨c, rfl, rfl, hS3, hbd3⟩ := HS.out.step HS0.out hbd hlk hv hat hrg1 hg1
            have HS3 := Lib.hid hS3
            have HBd3 : Hid (Bd b b m w3) := Lib.hid hbd3
            have hst := HST2.out c hS3.mem
            have hcs := HBS2.out c hS3.mem
            have hin := hS3.inn c hS3.mem
            have hge3 : b ≤ w3.heap.size := by rw [hs1]; exact hge
            clear hkey hlk hv hat hrg1 hg1 hs1 hbd hbd3 hrg hS3
            have hk1 : (k1 c.1).size ≤ 1099511627776 := k1_le hcs
            rcases hst with ⟨raw, h1, h2, h3⟩ | ⟨vs, hp, hv⟩
            · have hlook := hin.yes (p := (k1 c.1, raw)) hk1 h1
              clear hin h1
              go_wp2_with fail
              refine (h2 w3).mono ?_
              rintro e w4 ⟨rfl, g4⟩
              have hS4 := HS3.out.km (KM.of_below g4 HS3.out.par.below.size)
              obtain ⟨W, hput, hS5, hB5, hrl⟩ := hS4.put HS0.out (bd_below HBd3.out g4) HNE.out.1 HNE.out.2 (by omega) h3
              have HS5 := Lib.hid hS5
              have HB5 : Hid (∃ m, Bd b b m W) := Lib.hid ⟨m, hB5⟩
              have hge5 : b ≤ W.heap.size := Nat.le_of_lt hB5.lt
              clear hS4 hS5 hB5 g4
              go_wp2_with fail
              exact ⟨⟨ds ++ [c], _, cnt1, HS5, HB5, hge5⟩, by rw [hrl, hmeas]; exact hlt⟩
            · obtain ⟨vv, hlook⟩ := hin.no hk1 hp.no
              have HP := Lib.hid hp
              have HV2 := Lib.hid hv
              have hvs := hp.small
              clear hin hp hv
              go_wp2_with fail
              refine (reset_any b b m w3 HBd3.out).mono ?_
              rintro e w4 ⟨rfl, hB4, hb4, hg4⟩
              have HS4 : Hid (S3 w w4 B Bc r cnt1 D (fun z => left z && !z.sameKey (.string (bl c.1))) (plains l) cs ds X c) := Lib.hid (HS3.out.km ⟨hb4.mono HS0.out.ge, MK.of_grown hg4 (fun g hg => by cases hg; exact bd_cells HBd3.out)⟩)
              have HB4 : Hid (Bd b b (vs.take 0).flatten w4) := Lib.hid hB4
              have hge4 : b ≤ w4.heap.size := Nat.le_of_lt hB4.lt
              clear hB4 hb4 hg4
              go_wp2_with fail
              go_loopw [26, 27] (fun v26 v27 wr => ∃ (n : Nat) (bv : Bool), n ≤ vs.length ∧ v26 = .bool bv ∧ v27 = .int .i64 n ∧ Hid (bv = decide (0 < n)) ∧ Hid (Bd b b (vs.take n).flatten wr) ∧ Hid (S3 w wr B Bc r cnt1 D (fun z => left z && !z.sameKey (.string (bl c.1))) (plains l) cs ds X c) ∧ b ≤ wr.heap.size) (fun _ v27 _ => vs.length - (intOf v27).toNat)
              case atStart => exact ⟨0, false, Nat.zero_le _, rfl, rfl, Lib.hid rfl, HB4, HS4, hge4⟩
              case round =>
                clear HS4 HB4 hge4
                obtain ⟨n, bv, hn, rfl, rfl, HBV, HBn, HSn, hgen⟩ := hrel
                have hit := itoa_any n (by omega)
                have hkn := kn_le n hcs
                have hke := ke_le n hcs
                have hin := HSn.out.inn c HSn.out.mem
                by_cases hlt2 : n < vs.length
                · have hvn : vs[n]? = some vs[n] := List.getElem?_eq_getElem hlt2
                  have hfl : (vs.take (n + 1)).flatten = (vs.take n).flatten ++ vs[n] := by
                    rw [List.take_succ_eq_append_getElem hlt2, List.flatten_append, List.flatten_singleton]
                  have hfle : (vs.take n).flatten.length + (tx vs[n]).size ≤ 140737488355328 := by
                    have h1 := HP.out.len
                    have h2 : vs.flatten = (vs.take (n + 1)).flatten ++ (vs.drop (n + 1)).flatten := by rw [← List.flatten_append, List.take_append_drop]
                    rw [h2, hfl, List.length_append, List.length_append] at h1
                    rw [size_tx]
                    omega
                  have hone := HP.out.one n _ hvn
                  have HW : Hid (∀ W W', S3 w W B Bc r cnt1 D (fun z => left z && !z.sameKey (.string (bl c.1))) (plains l) cs ds X c → Bd b b (vs.take n).flatten W → Bd b b ((vs.take n).flatten ++ bl (tx vs[n])) W' → Wr b b W W' →
                      Hid (Bd b b (vs.take (n + 1)).flatten W') ∧ Hid (S3 w W' B Bc r cnt1 D (fun z => left z && !z.sameKey (.string (bl c.1))) (plains l) cs ds X c) ∧ b ≤ W'.heap.size) :=
                    Lib.hid fun W W' h1 h2 h3 h4 => ⟨Lib.hid (by rw [hfl]; exact h3), Lib.hid (h1.km (KM.of_wr h4 h2 HS0.out.ge)), Nat.le_of_lt h3.lt⟩
                  generalize hu : tx vs[n] = u at *
                  clear hfl hvn
                  have hnz := num_size n
                  rcases hone with h | ⟨raw, h0, h, hd, hp⟩
                  · rw [hu] at h
                    have hl1 := hin.yes (p := (kn c.1 n, u)) hkn h
                    clear hin h
                    go_wp2_with fail
                    refine (hit wr).mono ?_
                    rintro e w5 ⟨rfl, rfl⟩
                    go_wp2_with fail
                    refine (WriteString_any b b _ u wr HBn.out hfle hgen).mono ?_
                    rintro e w6 ⟨rfl, q1, q2⟩
                    obtain ⟨q3, q4, q5⟩ := HW.out _ _ HSn.out HBn.out q1 q2
                    clear q1 q2
                    go_wp2_with fail
                    exact ⟨⟨n + 1, true, by omega, rfl, by go_num, Lib.hid (by simp), q3, q4, q5⟩, by simp [intOf]; omega⟩
                  · obtain ⟨vv1, hl1⟩ := hin.no hkn h0
                    have hl2 := hin.yes (p := (ke c.1 n, raw)) hke h
                    rw [hu] at hd hp
                    clear hin h h0
                    by_cases hn0 : n = 0
                    · have hd0 := hd hn0
                      have b0 : ((n : Int) == 0) = true := by rw [hn0]; rfl
                      clear hd hp hn0
                      go_wp2_with fail
                      refine (hit wr).mono ?_
                      rintro e w5 ⟨rfl, rfl⟩
                      go_wp2_with fail
                      refine (hd0 wr).mono ?_
                      rintro e w6 ⟨rfl, g6⟩
                      have HS6 := Lib.hid (HSn.out.km (KM.of_below g6 HSn.out.par.below.size))
                      have HB6 := Lib.hid (bd_below HBn.out g6)
                      have hge6 : b ≤ w6.heap.size := Nat.le_of_lt HB6.out.lt
                      clear g6
                      go_wp2_with fail
                      refine (WriteString_any b b _ u w6 HB6.out hfle hge6).mono ?_
                      rintro e w7 ⟨rfl, q1, q2⟩
                      obtain ⟨q3, q4, q5⟩ := HW.out _ _ HS6.out HB6.out q1 q2
                      clear q1 q2
                      go_wp2_with fail
                      exact ⟨⟨n + 1, true, by omega, rfl, by go_num, Lib.hid (by simp), q3, q4, q5⟩, by simp [intOf]; omega⟩
                    · have hd0 := hp hn0
                      have b0 : ((n : Int) == 0) = false := by rw [beq_eq_false_iff_ne]; omega
                      clear hd hp hn0
                      go_wp2_with fail
                      refine (hit wr).mono ?_
                      rintro e w5 ⟨rfl, rfl⟩
                      go_wp2_with fail
                      refine (hd0 wr).mono ?_
                      rintro e w6 ⟨rfl, g6⟩
                      have HS6 := Lib.hid (HSn.out.km (KM.of_below g6 HSn.out.par.below.size))
                      have HB6 := Lib.hid (bd_below HBn.out g6)
                      have hge6 : b ≤ w6.heap.size := Nat.le_of_lt HB6.out.lt
                      clear g6
                      go_wp2_with fail
                      refine (WriteString_any b b _ u w6 HB6.out hfle hge6).mono ?_
                      rintro e w7 ⟨rfl, q1, q2⟩
                      obtain ⟨q3, q4, q5⟩ := HW.out _ _ HS6.out HB6.out q1 q2
                      clear q1 q2
                      go_wp2_with fail
                      exact ⟨⟨n + 1, true, by omega, rfl, by go_num, Lib.hid (by simp), q3, q4, q5⟩, by simp [intOf]; omega⟩
                · obtain rfl : n = vs.length := by omega
                  have hbv : bv = true := by rw [HBV.out]; exact decide_eq_true HP.out.pos
                  subst hbv
                  obtain ⟨vv1, hl1⟩ := hin.no hkn HP.out.stopS
                  obtain ⟨vv2, hl2⟩ := hin.no hke HP.out.stopE
                  have hnz := num_size vs.length
                  have hBe : Hid (Bd b b (X c.1) wr) := Lib.hid (by have := HBn.out; rw [List.take_length, ← HV2.out] at this; exact this)
                  have hXl : (X c.1).length ≤ 1099511627776 := by rw [HV2.out]; exact HP.out.len
                  clear hin
                  go_wp2_with fail
                  refine (hit wr).mono ?_
                  rintro e w5 ⟨rfl, rfl⟩
                  go_wp2_with fail
                  refine (Tryz.Builder_String_any_k b b (X c.1) wr (by exact hBe.out) hgen).mono ?_
                  rintro e w6 ⟨rfl, q1, q2, q3⟩
                  have hS6 := HSn.out.km ⟨q2.mono HS0.out.ge, MK.of_others q3 (bd_cells hBe.out)⟩
                  have hB6 : Bd b b (X c.1) w6 := q1
                  obtain ⟨W, hput, hS7, hB7, hrl⟩ := hS6.put HS0.out hB6 HNE.out.1 HNE.out.2 (by omega) hXl
                  have hput2 : (Instr.mapUpdate 52 (.map (some B)) (.string c.1) (.string ⟨(X c.1).toArray⟩)).run Tryz.prog w6 = .ok () W := hput
                  have HS7 := Lib.hid hS7
                  have HB7 : Hid (∃ m, Bd b b m W) := Lib.hid ⟨_, hB7⟩
                  have hge7 : b ≤ W.heap.size := Nat.le_of_lt hB7.lt
                  clear hS6 hS7 hB6 hB7 q1 q2 q3 hput
                  go_wp2_with fail
                  exact ⟨⟨ds ++ [c], _, cnt1, HS7, HB7, hge7⟩, by rw [hrl, hmeas]; exact hlt⟩
    | cons x suf =>
      obtain ⟨v0, v1, v2, ev0, ev2, hR⟩ := round_ok HX.out HL.out.1 HL.out.2 HSZ.out
      have hz0 := hR.pos0
      have hz1 := hR.pos1
      have hle0 := hR.le0
      have hke := hR.ne
      have HR := Lib.hid hR
      have HN : Hid (∀ W oc', (∃ cs, L1 w W B (pre ++ [x]) oc' cs) → ∃ pre suf' : List Wn, ∃ V : List UInt8, ∃ oc : Option Nat, suf.length = suf'.length ∧ Value.string v2 = .string (tx V) ∧ Value.map oc' = .map oc ∧ Hid (l = pre ++ suf' ∧ Behind (texts suf') V) ∧ Hid (∃ cs, L1 w W B pre oc cs)) :=
        Lib.hid fun W oc' hW => ⟨pre ++ [x], suf, _, oc', rfl, by rw [← ev2], rfl, Lib.hid ⟨by rw [HL.out.1]; simp, Behind.refl _⟩, Lib.hid hW⟩
      rw [ev0]
      clear ev0 ev2 HL hR
      cases hst : star x with
      | false =>
        have hcut := g_cutNo (lower x.name) 42 HR.out.name (star_no hst)
        have HS := Lib.hid hst
        clear hst
        go_wp2_with fail
        refine (HR.out.trim wr).mono ?_
        rintro e x1 ⟨rfl, g1⟩
        go_wp2_with fail
        refine (HR.out.par x1).mono ?_
        rintro e x2 ⟨rfl, g2⟩
        go_wp2_with fail
        refine (hcut x2).mono ?_
        rintro e x3 ⟨rfl, g3⟩
        obtain ⟨cs, hP⟩ := HP.out
        obtain ⟨vv, W, hlook, hstore, hW⟩ := (hP.next (chain (chain g1 g2) g3)).plain HR.out HS.out
        have G := Lib.hid (HN.out W oc ⟨_, hW⟩)
        clear hW hP g1 g2 g3 HN
        go_wp2_with fail
        go_roundg suf.length
        case measure => simp
        case rel =>
          obtain ⟨p1, s1, V1, o1, q1, q2, q3, q4, q5⟩ := G.out
          exact ⟨p1, s1, V1, o1, q1, q2, rfl, rfl, rfl, q3, q4, q5⟩
      | true =>
        obtain ⟨rs, hcut⟩ := g_star hst HR.out.name
        have HS := Lib.hid hst
        clear hst
        go_wp2_with fail
        refine (HR.out.trim wr).mono ?_
        rintro e x1 ⟨rfl, g1⟩
        go_wp2_with fail
        refine (HR.out.par x1).mono ?_
        rintro e x2 ⟨rfl, g2⟩
        go_wp2_with fail
        refine (hcut x2).mono ?_
        rintro e x3 ⟨rfl, g3⟩
        have HP3 : Hid (∃ cs, L1 w x3 B pre oc cs) := Lib.hid (by
          obtain ⟨cs, hP⟩ := HP.out
          exact ⟨cs, hP.next (chain (chain g1 g2) g3)⟩)
        clear g1 g2 g3
        cases oc with
        | none =>
          have heq := eqm_none
          have HP4 : Hid (L1 w (x3.alloc (.map #[] 0)) B pre (some x3.heap.size) []) := Lib.hid (by
            obtain ⟨cs, hP⟩ := HP3.out
            have h0 : cs = [] := by
              rcases hP.cmap with ⟨_, h⟩ | ⟨_, h, _⟩
              · exact h
              · cases h
            exact (h0 ▸ hP).made)
          go_wp2_with fail
          generalize x3.alloc (.map #[] 0) = x4 at *
          generalize x3.heap.size = Bc at *
          obtain ⟨o, vv, w5, w6, r1, r2, r3, r4, r5, hW⟩ := HP4.out.fresh HR.out HS.out (by simp)
          have G := Lib.hid (HN.out w6 (some Bc) hW)
          clear hW HN
          rw [r1]
          simp only [Result.andThen]
          rw [Oper.upon_value]
          go_wp2_with fail
          go_roundg suf.length
          case measure => simp
          case rel =>
            obtain ⟨p1, s1, V1, o1, q1, q2, q3, q4, q5⟩ := G.out
            exact ⟨p1, s1, V1, o1, q1, q2, rfl, rfl, rfl, q3, q4, q5⟩
        | some Bc =>
          have heq := eqm_some
          obtain ⟨cs, hP⟩ := HP3.out
          by_cases hin : ∃ c ∈ cs, c.1 = baseL x
          · obtain ⟨c, hc, hcb⟩ := hin
            obtain ⟨B2, vv, w6, r1, r2, r3, hW⟩ := hP.old HR.out HS.out hc hcb
            have G := Lib.hid (HN.out w6 (some Bc) hW)
            clear hW hP HN hc hcb
            go_wp2_with fail
            go_roundg suf.length
            case measure => simp
            case rel =>
              obtain ⟨p1, s1, V1, o1, q1, q2, q3, q4, q5⟩ := G.out
              exact ⟨p1, s1, V1, o1, q1, q2, rfl, rfl, rfl, q3, q4, q5⟩
          · obtain ⟨o, vv, w5, w6, r1, r2, r3, r4, r5, hW⟩ := hP.fresh HR.out HS.out (fun c hc e => hin ⟨c, hc, e⟩)
            have G := Lib.hid (HN.out w6 (some Bc) hW)
            clear hW hP HN hin
            go_wp2_with fail
            go_roundg suf.length
            case measure => simp
            case rel =>
              obtain ⟨p1, s1, V1, o1, q1, q2, q3, q4, q5⟩ := G.out
              exact ⟨p1, s1, V1, o1, q1, q2, rfl, rfl, rfl, q3, q4, q5⟩
end Go.Proofs.YtbklpdcipfhdjaaGreatDoor.Pa
