/- The second loop of ParseMediaType: what its worlds keep, which bases a range over the map of maps has done, and what a base's map may hold. In plain Lean: parameters whose names hold an asterisk, by what stands ahead of it. The first loop of ParseMediaType: what a round reads, and what the maps hold behind it. -/
import Derived.Test.YtbklpdcipfhdjaaGreatDoorIt
import Derived.Test.YtbklpdcipfhdjaaGreatDoorDc
import Derived.Maps.RangeWalk
namespace Go.Proofs.YtbklpdcipfhdjaaGreatDoor.Pm
open Go.RowKit Go.Maps Go.ChangeMaps Go.WideMaps Go.Proofs.YtbklpdcipfhdjaaGreatDoor.A Go.Proofs.YtbklpdcipfhdjaaGreatDoor.D Go.Proofs.YtbklpdcipfhdjaaGreatDoor.G Go.Proofs.YtbklpdcipfhdjaaGreatDoor.H Go.Proofs.YtbklpdcipfhdjaaGreatDoor.P Go.Proofs.YtbklpdcipfhdjaaGreatDoor.Q Go.Proofs.YtbklpdcipfhdjaaGreatDoor.R Go.Proofs.YtbklpdcipfhdjaaGreatDoor.S Go.Proofs.YtbklpdcipfhdjaaGreatDoor.T Go.Proofs.YtbklpdcipfhdjaaGreatDoor.W Go.Proofs.YtbklpdcipfhdjaaGreatDoor.Bd Go.Proofs.YtbklpdcipfhdjaaGreatDoor.Pe Go.Proofs.YtbklpdcipfhdjaaGreatDoor.Cm Go.Proofs.YtbklpdcipfhdjaaGreatDoor.It

/-- No object turns but rows of cells. -/
def MK (w w' : World) : Prop := ∀ (k : Nat) (o : Obj), w.heap[k]? = some o → (∀ c T fz, o ≠ Obj.cells c T fz) → w'.heap[k]? = some o
theorem MK.refl (w : World) : MK w w := fun _ _ h _ => h
theorem MK.trans {a b c : World} (h : MK a b) (k : MK b c) : MK a c := fun i o hi ho => k i o (h i o hi ho) ho
theorem lt_of {w : World} {k : Nat} {o : Obj} (h : w.heap[k]? = some o) : k < w.heap.size := (Array.getElem?_eq_some_iff.1 h).1
theorem MK.of_grown {w w' : World} {row : Option Nat} (h : w.grownBy w' row) (hr : ∀ g, row = some g → ∃ c T fz, w.heap[g]? = some (Obj.cells c T fz)) : MK w w' := by
  intro k o hk ho
  rw [h.block k (lt_of hk) ?_]
  · exact hk
  · intro e
    obtain ⟨c, T, fz, hc⟩ := hr k e.symm
    rw [hk] at hc
    exact ho c T fz (Option.some.inj hc)
theorem MK.of_below {w w' : World} (h : Below w.heap.size w w') : MK w w' := fun k _ hk _ => (h.block k (lt_of hk)).trans hk
theorem MK.of_others {w w' : World} {b : Nat} (h : Lib.OthersKept 5 (some b) w w') (hb : ∃ c T fz, w.heap[b]? = some (Obj.cells c T fz)) : MK w w' := by
  intro k o hk ho
  refine h k o hk ?_ (fun c fz => ho c 5 fz)
  intro e
  obtain ⟨c, T, fz, hc⟩ := hb
  rw [← Option.some.inj e, hk] at hc
  exact ho c T fz (Option.some.inj hc)
theorem bd_cells {B b : Nat} {l : List UInt8} {w : World} (h : Bd B b l w) : ∃ c T fz, w.heap[b]? = some (Obj.cells c T fz) := by
  obtain ⟨p, v, _, _, hb, _⟩ := h.open_
  exact ⟨_, _, _, hb⟩
theorem owns_mk {R : Value → Option (DataW Unit × List MemPlace)} {w w' : World} {b n : Nat} {D : DataW Unit} (h : w.ownsMap Tryz.prog 9 R b n D) (hk : MK w w') : w'.ownsMap Tryz.prog 9 R b n D := by
  obtain ⟨es, clock, hb, rest⟩ := h
  exact ⟨es, clock, hk b _ hb (by simp), rest⟩
theorem ranges_mk {R : Value → Option (DataW Unit × List MemPlace)} {w w' : World} {b r n cnt : Nat} {D : DataW Unit} {left : Lit → Bool} (h : w.ranges Tryz.prog 9 R b r n D left cnt) (hk : MK w w') : w'.ranges Tryz.prog 9 R b r n D left cnt := by
  obtain ⟨es, clock, since, seen, c0, hb, F, hs, hD, hr, rest⟩ := h
  exact ⟨es, clock, since, seen, c0, hk b _ hb (by simp), F, hs, hD, hk r _ hr (by simp), rest⟩
theorem om_mk {w w' : World} {B : Nat} {E : List Pr} (h : OM w B E) (hk : MK w w') : OM w' B E := by
  obtain ⟨D, h1, h2⟩ := h
  exact ⟨D, owns_mk h1 hk, h2⟩
theorem om_map {w : World} {B : Nat} {E : List Pr} (h : OM w B E) : ∃ es cl, w.heap[B]? = some (Obj.map es cl) := by
  obtain ⟨D, ⟨es, clock, hb, _⟩, _⟩ := h
  exact ⟨_, _, hb⟩

/-- What a step leaves: below B all is as it was, and no object but rows of cells has turned. -/
structure KM (B : Nat) (w w' : World) : Prop where
  below : Below B w w'
  maps : MK w w'
theorem KM.refl (B : Nat) (w : World) : KM B w w := ⟨Below.refl _ _, MK.refl _⟩
theorem KM.trans {B : Nat} {a b c : World} (h : KM B a b) (k : KM B b c) : KM B a c := ⟨h.below.trans k.below, h.maps.trans k.maps⟩
theorem KM.of_below {B : Nat} {w w' : World} (h : Below w.heap.size w w') (hB : B ≤ w.heap.size) : KM B w w' := ⟨h.mono hB, MK.of_below h⟩
theorem KM.of_wr {B B' b : Nat} {l : List UInt8} {w w' : World} (h : Wr B' b w w') (hb : Bd B' b l w) (hB : B ≤ B') : KM B w w' := ⟨h.below.mono hB, MK.of_others h.others (bd_cells hb)⟩
theorem PM.km {w0 wr wr' : World} {Bp : Nat} {E : List Pr} (h : PM w0 wr Bp E) (hk : KM w0.heap.size wr wr') : PM w0 wr' Bp E := ⟨om_mk h.om hk.maps, h.ge, h.below.trans hk.below⟩

/-- A builder stays one where nothing but maps turns. -/
theorem bd_kept {B b : Nat} {l : List UInt8} {w w' : World} {row : Option Nat} (h : Bd B b l w) (hg : w.grownBy w' row) (hr : ∀ g, row = some g → ∀ c T fz, w.heap[g]? ≠ some (Obj.cells c T fz)) : Bd B b l w' := by
  refine h.kept fun k o hk ho => ?_
  rw [hg.block k (lt_of hk) ?_]
  · exact hk
  · intro e
    rcases ho with rfl | ⟨c, fz, rfl⟩
    · obtain ⟨c, T, fz, hc⟩ := bd_cells h
      exact hr _ e.symm _ _ _ hc
    · exact hr _ e.symm _ _ _ hk
theorem bd_below {B b : Nat} {l : List UInt8} {w w' : World} (h : Bd B b l w) (hb : Below w.heap.size w w') : Bd B b l w' := h.kept fun k _ hk _ => (hb.block k (lt_of hk)).trans hk

/-- What a range over the map of maps has done so far. -/
structure RO (cs : List Ct) (left : Lit → Bool) (ds : List Ct) : Prop where
  sub : ∀ c ∈ ds, c ∈ cs ∧ left (.string (bl c.1)) = false
  nodup : (ds.map (·.1)).Nodup
  rest : ∀ c ∈ cs, left (.string (bl c.1)) = true ∨ c ∈ ds
theorem RO.start {D : DataW Unit} {cs : List Ct} (h : DO D cs) : RO cs (Maps.has D) [] := ⟨by simp, by simp, fun c hc => .inl (h.at_ c hc).1⟩
theorem RO.step {D : DataW Unit} {cs : List Ct} {left : Lit → Bool} {ds : List Ct} (h : RO cs left ds) (hD : DO D cs) (hn : (cs.map (·.1)).Nodup) {x : ByteArray} {o : Option Nat} {y : DataW Unit × List MemPlace}
    (hl : left (.string (bl x)) = true) (hv : R68 (.map o) = some y) (hat : ∀ zd, D.atKey (.string (bl x)) zd = y.1) :
    ∃ c ∈ cs, c.1 = x ∧ o = some c.2.1 ∧ (∀ d ∈ ds, d.1 ≠ c.1) ∧ RO cs (fun z => left z && !z.sameKey (.string (bl x))) (ds ++ [c]) := by
  obtain ⟨c, hc, e⟩ := hD.has _ (has_true_of_atKey hat)
  have e1 : x = c.1 := key_inj e
  have e2 := ((hD.at_ c hc).2 .nil).symm.trans (e ▸ hat .nil)
  have hnew : ∀ d ∈ ds, d.1 ≠ c.1 := by
    intro d hd e3
    have h1 := (h.sub d hd).2
    rw [e3, ← e1, hl] at h1
    cases h1
  refine ⟨c, hc, e1.symm, ?_, hnew, ⟨fun d hd => ?_, ?_, fun d hd => ?_⟩⟩
  · obtain ⟨y1, y2⟩ := y
    simp only at e2
    subst e2
    have := R68_at hv
    injection this
  · rcases List.mem_append.1 hd with hd | hd
    · refine ⟨(h.sub d hd).1, ?_⟩
      rw [(h.sub d hd).2]; rfl
    · simp at hd
      subst hd
      refine ⟨hc, ?_⟩
      rw [e1, WideAt.sameKey_self (keyLit d.1)]
      simp
  · rw [List.map_append, List.nodup_append]
    refine ⟨h.nodup, by simp, ?_⟩
    intro a ha b hb e3
    obtain ⟨q, hq, rfl⟩ := List.mem_map.1 ha
    simp at hb
    exact hnew q hq (e3.trans hb)
  · by_cases e3 : d = c
    · exact .inr (by simp [e3])
    · rcases h.rest d hd with h1 | h1
      · left
        have hne : (Lit.string (bl d.1)) ≠ .string (bl x) := by
          intro e4
          exact e3 (same_name cs hn d c hd hc ((key_inj e4).trans e1))
        rw [h1, sameKey_ne hne]; rfl
      · exact .inr (by simp [h1])
theorem RO.done {cs : List Ct} {left : Lit → Bool} {ds : List Ct} (h : RO cs left ds) (hn : (cs.map (·.1)).Nodup) (hl : ∀ kl, left kl = false) : ds.Perm cs := by
  have nd : ∀ l : List Ct, (l.map (·.1)).Nodup → l.Nodup := fun l h => (List.pairwise_map.1 h).imp fun hne e => hne (congrArg Prod.fst e)
  refine (List.perm_ext_iff_of_nodup (nd _ h.nodup) (nd _ hn)).2 fun p => ⟨fun hp => (h.sub p hp).1, fun hp => ?_⟩
  rcases h.rest p hp with h1 | h1
  · rw [hl] at h1; cases h1
  · exact h1

/-- The keys of a base: with an asterisk; with a number; with a number and an asterisk. -/
abbrev k1 (b : ByteArray) : ByteArray := b ++ ⟨#[42]⟩
abbrev kn (b : ByteArray) (n : Nat) : ByteArray := b ++ ⟨#[42]⟩ ++ num n
abbrev ke (b : ByteArray) (n : Nat) : ByteArray := b ++ ⟨#[42]⟩ ++ num n ++ ⟨#[42]⟩
/-- The piece of number n is there, and gives v. -/
inductive PieceOk (m : List Pr) (b : ByteArray) (n : Nat) (v : List UInt8) : Prop
  | simple (h : (kn b n, tx v) ∈ m)
  | enc (raw : ByteArray) (h0 : ∀ p ∈ m, p.1 ≠ kn b n) (h : (ke b n, raw) ∈ m) (hd : n = 0 → Gives 54 #[.string raw] (.tuple #[.string (tx v), .bool true])) (hp : n ≠ 0 → Gives 58 #[.string raw] (.tuple #[.string (tx v), .bool true]))
structure Pieces (m : List Pr) (b : ByteArray) (vs : List (List UInt8)) : Prop where
  no : ∀ p ∈ m, p.1 ≠ k1 b
  one : ∀ n v, vs[n]? = some v → PieceOk m b n v
  stopS : ∀ p ∈ m, p.1 ≠ kn b vs.length
  stopE : ∀ p ∈ m, p.1 ≠ ke b vs.length
  pos : 0 < vs.length
  small : vs.length < 100
  len : vs.flatten.length ≤ 1099511627776
/-- What the map of a base gives: one extended value, or pieces. -/
inductive St (m : List Pr) (b : ByteArray) (v : List UInt8) : Prop
  | single (raw : ByteArray) (h : (k1 b, raw) ∈ m) (hd : Gives 54 #[.string raw] (.tuple #[.string (tx v), .bool true])) (hv : v.length ≤ 1099511627776)
  | pieces (vs : List (List UInt8)) (h : Pieces m b vs) (hv : v = vs.flatten)
theorem num_size (n : Nat) : (num n).size ≤ 2 := by unfold num; split <;> simp [ByteArray.size]
end Go.Proofs.YtbklpdcipfhdjaaGreatDoor.Pm

namespace Go.Proofs.YtbklpdcipfhdjaaGreatDoor.Gp
open Go.RowKit Go.Maps Go.ChangeMaps Go.WideMaps Go.Proofs.YtbklpdcipfhdjaaGreatDoor.A Go.Proofs.YtbklpdcipfhdjaaGreatDoor.D Go.Proofs.YtbklpdcipfhdjaaGreatDoor.G Go.Proofs.YtbklpdcipfhdjaaGreatDoor.H Go.Proofs.YtbklpdcipfhdjaaGreatDoor.P Go.Proofs.YtbklpdcipfhdjaaGreatDoor.Q Go.Proofs.YtbklpdcipfhdjaaGreatDoor.R Go.Proofs.YtbklpdcipfhdjaaGreatDoor.S Go.Proofs.YtbklpdcipfhdjaaGreatDoor.T Go.Proofs.YtbklpdcipfhdjaaGreatDoor.W Go.Proofs.YtbklpdcipfhdjaaGreatDoor.Bd Go.Proofs.YtbklpdcipfhdjaaGreatDoor.Pe Go.Proofs.YtbklpdcipfhdjaaGreatDoor.Cm Go.Proofs.YtbklpdcipfhdjaaGreatDoor.It Go.Proofs.YtbklpdcipfhdjaaGreatDoor.Pm

/-- A name and a value, the name in small letters. -/
abbrev pairL (x : Wn) : Pr := (lower x.name, x.value)
def star (x : Wn) : Bool := (bl (lower x.name)).contains 42
/-- What stands ahead of the asterisk. -/
def baseL (x : Wn) : ByteArray := tx ((bl (lower x.name)).takeWhile fun c => c != 42)
def plains (l : List Wn) : List Pr := (l.filter fun x => !star x).map pairL
abbrev Gr := ByteArray × List Pr
def put1 (gs : List Gr) (x : Wn) : List Gr :=
  if gs.any fun g => bl g.1 == bl (baseL x) then gs.map fun g => if bl g.1 == bl (baseL x) then (g.1, g.2 ++ [pairL x]) else g
  else gs ++ [(baseL x, [pairL x])]
def groups (l : List Wn) : List Gr := (l.filter star).foldl put1 []
theorem plains_no {l : List Wn} {x : Wn} (h : star x = false) : plains (l ++ [x]) = plains l ++ [pairL x] := by
  simp [plains, h]
theorem plains_yes {l : List Wn} {x : Wn} (h : star x = true) : plains (l ++ [x]) = plains l := by
  simp [plains, h]
theorem groups_no {l : List Wn} {x : Wn} (h : star x = false) : groups (l ++ [x]) = groups l := by
  simp [groups, h]
theorem groups_yes {l : List Wn} {x : Wn} (h : star x = true) : groups (l ++ [x]) = put1 (groups l) x := by
  simp [groups, h]
/-- The groups without the blocks of their maps. -/
def er (cs : List Ct) : List Gr := cs.map fun c => (c.1, c.2.2)
theorem any_iff {gs : List Gr} {b : ByteArray} : (gs.any fun g => bl g.1 == bl b) = true ↔ ∃ g ∈ gs, g.1 = b := by
  rw [List.any_eq_true]
  constructor
  · rintro ⟨g, hg, h⟩; exact ⟨g, hg, eq_of_bl (eq_of_beq h)⟩
  · rintro ⟨g, hg, rfl⟩; exact ⟨g, hg, beq_self_eq_true _⟩
theorem er_fresh {cs : List Ct} {x : Wn} {B : Nat} (h : ∀ c ∈ cs, c.1 ≠ baseL x) : er (cs ++ [(baseL x, B, [pairL x])]) = put1 (er cs) x := by
  unfold put1
  rw [if_neg]
  · simp [er]
  · rw [any_iff]
    rintro ⟨g, hg, e⟩
    obtain ⟨c, hc, rfl⟩ := List.mem_map.1 hg
    exact h c hc e
theorem er_old {cs : List Ct} {x : Wn} {c : Ct} (hc : c ∈ cs) (h : c.1 = baseL x) : er (addC c.1 (pairL x) cs) = put1 (er cs) x := by
  unfold put1
  rw [if_pos]
  · unfold er addC
    rw [List.map_map, List.map_map]
    apply List.map_congr_left
    intro d _
    simp only [Function.comp, h]
    split <;> simp_all
  · rw [any_iff]
    exact ⟨_, List.mem_map.2 ⟨c, hc, rfl⟩, h⟩
/-- All pairs of the groups come of the list. -/
theorem groups_mem (l : List Wn) : ∀ g ∈ groups l, ∀ q ∈ g.2, ∃ y ∈ l, q = pairL y := by
  suffices h : ∀ (m : List Wn) (gs : List Gr), (∀ x ∈ m, x ∈ l) → (∀ g ∈ gs, ∀ q ∈ g.2, ∃ y ∈ l, q = pairL y) → ∀ g ∈ m.foldl put1 gs, ∀ q ∈ g.2, ∃ y ∈ l, q = pairL y from
    h _ [] (fun x hx => (List.mem_filter.1 hx).1) (by simp)
  intro m
  induction m with
  | nil => intro gs _ h; exact h
  | cons x m ih =>
    intro gs hm hg
    refine ih _ (fun y hy => hm y (by simp [hy])) ?_
    intro g hgm q hq
    unfold put1 at hgm
    split at hgm
    · obtain ⟨g0, h0, rfl⟩ := List.mem_map.1 hgm
      split at hq
      · rcases List.mem_append.1 hq with hq | hq
        · exact hg g0 h0 q hq
        · simp at hq
          exact ⟨x, hm x (by simp), hq⟩
      · exact hg g0 h0 q hq
    · rcases List.mem_append.1 hgm with h0 | h0
      · exact hg g h0 q hq
      · simp at h0
        subst h0
        simp at hq
        exact ⟨x, hm x (by simp), hq⟩
theorem put1_len (gs : List Gr) (x : Wn) : (put1 gs x).length ≤ gs.length + 1 := by
  unfold put1
  split <;> simp
theorem groups_len (l : List Wn) : (groups l).length ≤ l.length := by
  suffices h : ∀ (m : List Wn) (gs : List Gr), (m.foldl put1 gs).length ≤ gs.length + m.length by
    have := h (l.filter star) []
    have h2 := List.length_filter_le star l
    unfold groups
    simp at this
    omega
  intro m
  induction m with
  | nil => intro gs; simp
  | cons x m ih => intro gs; have := ih (put1 gs x); have := put1_len gs x; simp; omega
theorem plains_len (l : List Wn) : (plains l).length ≤ l.length := by
  unfold plains
  rw [List.length_map]
  exact List.length_filter_le _ _
theorem group_len (l : List Wn) : ∀ g ∈ groups l, g.2.length ≤ l.length := by
  suffices h : ∀ (m : List Wn) (gs : List Gr) (n : Nat), (∀ g ∈ gs, g.2.length ≤ n) → ∀ g ∈ m.foldl put1 gs, g.2.length ≤ n + m.length by
    intro g hg
    have := h (l.filter star) [] 0 (by simp) g hg
    have h2 := List.length_filter_le star l
    omega
  intro m
  induction m with
  | nil => intro gs n h; simpa using h
  | cons x m ih =>
    intro gs n h g hg
    have := ih (put1 gs x) (n + 1) ?_ g hg
    · simp; omega
    · intro g hgm
      unfold put1 at hgm
      split at hgm
      · obtain ⟨g0, h0, rfl⟩ := List.mem_map.1 hgm
        have := h g0 h0
        split
        · simp; omega
        · omega
      · rcases List.mem_append.1 hgm with h0 | h0
        · have := h g h0; omega
        · simp at h0; subst h0; simp
theorem plains_mem {l : List Wn} {q : Pr} (h : q ∈ plains l) : ∃ y ∈ l, star y = false ∧ q = pairL y := by
  obtain ⟨y, hy, rfl⟩ := List.mem_map.1 h
  obtain ⟨h1, h2⟩ := List.mem_filter.1 hy
  exact ⟨y, h1, by simpa using h2, rfl⟩
/-- A name with an asterisk in two parts. -/
theorem star_split {x : Wn} (h : star x = true) : ∃ r, bl (lower x.name) = bl (baseL x) ++ 42 :: r ∧ (42 : UInt8) ∉ bl (baseL x) := by
  have hb : bl (baseL x) = (bl (lower x.name)).takeWhile fun c => c != 42 := bl_tx _
  have hn : (42 : UInt8) ∉ bl (baseL x) := by
    rw [hb]
    intro hm
    have := List.all_eq_true.1 (List.all_takeWhile (p := fun c : UInt8 => c != 42) (l := bl (lower x.name))) _ hm
    simp at this
  have hd : bl (lower x.name) = bl (baseL x) ++ (bl (lower x.name)).dropWhile fun c => c != 42 := by
    rw [hb, List.takeWhile_append_dropWhile]
  cases hr : (bl (lower x.name)).dropWhile fun c => c != 42 with
  | nil =>
    rw [hr, List.append_nil] at hd
    unfold star at h
    rw [hd] at h
    simp at h
    exact absurd (by simpa using h) hn
  | cons c r =>
    have hc : c = 42 := by
      have := List.head?_dropWhile_not (fun c : UInt8 => c != 42) (bl (lower x.name))
      rw [hr] at this
      simpa using this
    subst hc
    exact ⟨r, by rw [hr] at hd; exact hd, hn⟩
theorem star_no {x : Wn} (h : star x = false) : (42 : UInt8) ∉ bl (lower x.name) := by
  unfold star at h
  simpa using h
theorem base_size (x : Wn) : (baseL x).size ≤ (lower x.name).size := by
  rw [sz, sz]
  have h1 : bl (baseL x) = (bl (lower x.name)).takeWhile fun c => c != 42 := bl_tx _
  rw [h1]
  exact (List.takeWhile_prefix _).length_le
end Go.Proofs.YtbklpdcipfhdjaaGreatDoor.Gp

namespace Go.Proofs.YtbklpdcipfhdjaaGreatDoor.Rd
open Go.RowKit Go.Maps Go.ChangeMaps Go.WideMaps Go.Proofs.YtbklpdcipfhdjaaGreatDoor.A Go.Proofs.YtbklpdcipfhdjaaGreatDoor.D Go.Proofs.YtbklpdcipfhdjaaGreatDoor.E Go.Proofs.YtbklpdcipfhdjaaGreatDoor.F Go.Proofs.YtbklpdcipfhdjaaGreatDoor.G Go.Proofs.YtbklpdcipfhdjaaGreatDoor.H Go.Proofs.YtbklpdcipfhdjaaGreatDoor.J Go.Proofs.YtbklpdcipfhdjaaGreatDoor.P Go.Proofs.YtbklpdcipfhdjaaGreatDoor.Q Go.Proofs.YtbklpdcipfhdjaaGreatDoor.R Go.Proofs.YtbklpdcipfhdjaaGreatDoor.S Go.Proofs.YtbklpdcipfhdjaaGreatDoor.T Go.Proofs.YtbklpdcipfhdjaaGreatDoor.W Go.Proofs.YtbklpdcipfhdjaaGreatDoor.Bd Go.Proofs.YtbklpdcipfhdjaaGreatDoor.Pe Go.Proofs.YtbklpdcipfhdjaaGreatDoor.Cm Go.Proofs.YtbklpdcipfhdjaaGreatDoor.It Go.Proofs.YtbklpdcipfhdjaaGreatDoor.Pm Go.Proofs.YtbklpdcipfhdjaaGreatDoor.Gp

/-- Parameters that may be written, their names apart in small letters. -/
structure Nm (l : List Wn) : Prop where
  writ : ∀ x ∈ l, Writ x
  apart : (l.map fun x => lower x.name).Nodup

/-- What a round reads. -/
structure Rnd (pre : List Wn) (x : Wn) (v0 v1 v2 : ByteArray) : Prop where
  pos0 : 0 < v0.size
  le0 : v0.size ≤ 1099511627776
  trim : Gives 51 #[.string v0, .func (.func 52) #[] #[]] (.string v1)
  pos1 : 0 < v1.size
  le1 : v1.size ≤ 1099511627776
  par : Gives 53 #[.string v1] (.tuple #[.string (lower x.name), .string x.value, .string v2])
  name : (lower x.name).size ≤ 1099511627776
  value : x.value.size ≤ 1099511627776
  ne : (lower x.name).toList.isEmpty = false
  apart : ∀ y ∈ pre, lower y.name ≠ lower x.name
  len : pre.length < maxLen

theorem round_ok {l pre suf : List Wn} {x : Wn} {V : List UInt8} (hN : Nm l) (hl : l = pre ++ x :: suf) (hB0 : Behind (texts (x :: suf)) V) (hsz : (texts l).length ≤ 1099511627776) :
    ∃ v0 v1 v2, tx V = v0 ∧ tx (texts suf) = v2 ∧ Rnd pre x v0 v1 v2 := by
  have hxw : Writ x := hN.writ x (by rw [hl]; simp)
  have hsuf : ∀ y ∈ suf, Writ y := fun y hy => hN.writ y (by rw [hl]; simp [hy])
  have hrest : RestOk (texts suf ++ []) := restOk_texts hsuf (.inl rfl)
  rw [List.append_nil] at hrest
  obtain ⟨Z, hZ⟩ := bare_head x
  have hB : Behind (bl x.ahead ++ 59 :: (Z ++ texts suf)) V := by
    rw [texts_cons, bare_text, hZ] at hB0
    simpa using hB0
  obtain ⟨A2, hA2, rfl⟩ := hB.part hxw.ahead
  have hvl : (tx (A2 ++ 59 :: (Z ++ texts suf))).size ≤ 1099511627776 := by
    obtain ⟨A3, _, e⟩ := hB0
    have h1 := congrArg List.length e
    rw [hl] at hsz
    rw [size_tx]
    simp [texts] at h1 hsz
    simp [texts]
    omega
  have hvz : (tx (59 :: (Z ++ texts suf))).size ≤ 1099511627776 := by
    rw [size_tx] at hvl ⊢
    simp at hvl ⊢
    omega
  have hnl : (bl x.name).length ≤ 1099511627776 := by
    rw [size_tx] at hvz
    have := congrArg List.length hZ
    unfold Wn.text bare at this
    have h4 := sz x.name
    simp at this hvz
    omega
  refine ⟨_, tx (59 :: (Z ++ texts suf)), _, rfl, rfl, by rw [size_tx]; simp; omega, hvl, g_trim _ A2 (59 :: (Z ++ texts suf)) hvl (bl_tx _) hA2 (by intro d hd; simp at hd; subst hd; decide), tx_size_pos, hvz,
    param_ok _ (bare x) (texts suf) hvz (by rw [bl_tx, hZ]; simp) (bare_writ hxw) (.inr hrest.head), by rw [lower_size, sz]; exact hnl, ?_, emp_no (by rw [lower_size, sz]; exact (tok_all hxw.name).1), ?_, ?_⟩
  · rw [size_tx] at hvz
    have := congrArg List.length hZ
    unfold Wn.text bare Wn.val at this
    have h3 := qb_length_ge (bl x.value)
    have h4 := sz x.value
    simp at this hvz
    split at this <;> simp [quoteL] at this <;> omega
  · have := hN.apart
    rw [hl, List.map_append, List.map_cons] at this
    intro y hy e
    exact (List.nodup_append.1 this).2.2 _ (List.mem_map.2 ⟨y, hy, rfl⟩) _ (by simp) e
  · rw [hl] at hsz
    have h5 : pre.length ≤ (texts pre).length := texts_len pre
    simp [texts] at hsz h5
    unfold maxLen
    omega

/-- Behind some of the parameters: what the maps hold. -/
structure L1 (w wr : World) (Bp : Nat) (pre : List Wn) (oc : Option Nat) (cs : List Ct) : Prop where
  par : PM w wr Bp (plains pre)
  cmap : oc = none ∧ cs = [] ∨ ∃ Bc, oc = some Bc ∧ CM w wr Bp Bc cs
  er : er cs = groups pre
theorem L1.start {w wr : World} (h : Below w.heap.size w wr) : L1 w (wr.alloc (.map #[] 0)) wr.heap.size [] none [] :=
  ⟨⟨OM.made wr, h.size, h.alloc h.size _⟩, .inl ⟨rfl, rfl⟩, rfl⟩
theorem L1.next {w wr wr' : World} {Bp : Nat} {pre : List Wn} {oc : Option Nat} {cs : List Ct} (h : L1 w wr Bp pre oc cs) (hb : Below wr.heap.size wr wr') : L1 w wr' Bp pre oc cs := by
  refine ⟨h.par.next hb, ?_, h.er⟩
  rcases h.cmap with h1 | ⟨Bc, h1, h2⟩
  · exact .inl h1
  · exact .inr ⟨Bc, h1, h2.next hb⟩
theorem L1.made {w wr : World} {Bp : Nat} {pre : List Wn} {cs : List Ct} (h : L1 w wr Bp pre none cs) : L1 w (wr.alloc (.map #[] 0)) Bp pre (some wr.heap.size) cs := by
  rcases h.cmap with ⟨_, h1⟩ | ⟨Bc, h1, _⟩
  · exact ⟨h.par.next ((Below.refl _ wr).alloc (Nat.le_refl _) _), .inr ⟨_, rfl, h1 ▸ CM.start h.par⟩, h.er⟩
  · cases h1
theorem L1.plain {w wr : World} {Bp : Nat} {pre : List Wn} {oc : Option Nat} {cs : List Ct} {x : Wn} {v0 v1 v2 : ByteArray} (h : L1 w wr Bp pre oc cs) (hR : Rnd pre x v0 v1 v2) (hx : star x = false) :
    ∃ vv W, (Instr.lookup 52 (.map (some Bp)) (.string (lower x.name)) true).run Tryz.prog wr = .ok (.tuple #[.string vv, .bool false]) wr ∧
      (Instr.mapUpdate 52 (.map (some Bp)) (.string (lower x.name)) (.string x.value)).run Tryz.prog wr = .ok () W ∧ L1 w W Bp (pre ++ [x]) oc cs := by
  have hne : ∀ q ∈ plains pre, q.1 ≠ (pairL x).1 := by
    intro q hq
    obtain ⟨y, hy, _, rfl⟩ := plains_mem hq
    exact hR.apart y hy
  obtain ⟨vv, h1⟩ := h.par.om.no hR.name hne
  obtain ⟨W, h2, h3, h4, _⟩ := h.par.store (pairL x) hne hR.name hR.value (Nat.lt_of_le_of_lt (plains_len pre) hR.len)
  refine ⟨vv, W, h1, h2, ⟨by rw [plains_no hx]; exact h3, ?_, by rw [groups_no hx]; exact h.er⟩⟩
  rcases h.cmap with h5 | ⟨Bc, h5, h6⟩
  · exact .inl h5
  · exact .inr ⟨Bc, h5, h4 Bc cs h6⟩
theorem er_len (cs : List Ct) : (er cs).length = cs.length := by simp [er]
theorem L1.fresh {w wr : World} {Bp Bc : Nat} {pre : List Wn} {cs : List Ct} {x : Wn} {v0 v1 v2 : ByteArray} (h : L1 w wr Bp pre (some Bc) cs) (hR : Rnd pre x v0 v1 v2) (hx : star x = true) (hb : ∀ c ∈ cs, c.1 ≠ baseL x) :
    ∃ o vv w5 w6, (Instr.lookup 68 (.map (some Bc)) (.string (baseL x)) true).run Tryz.prog wr = .ok (.tuple #[.map o, .bool false]) wr ∧
      (Instr.mapUpdate 68 (.map (some Bc)) (.string (baseL x)) (.map (some wr.heap.size))).run Tryz.prog (wr.alloc (.map #[] 0)) = .ok () w5 ∧
      (Instr.lookup 68 (.map (some Bc)) (.string (baseL x)) false).run Tryz.prog w5 = .ok (.map (some wr.heap.size)) w5 ∧
      (Instr.lookup 52 (.map (some wr.heap.size)) (.string (lower x.name)) true).run Tryz.prog w5 = .ok (.tuple #[.string vv, .bool false]) w5 ∧
      (Instr.mapUpdate 52 (.map (some wr.heap.size)) (.string (lower x.name)) (.string x.value)).run Tryz.prog w5 = .ok () w6 ∧
      ∃ cs', L1 w w6 Bp (pre ++ [x]) (some Bc) cs' := by
  rcases h.cmap with ⟨h0, _⟩ | ⟨Bc', h0, hC⟩
  · cases h0
  · cases h0
    have hcl : cs.length < maxLen := by
      have h1 := groups_len pre
      rw [← h.er, er_len] at h1
      exact Nat.lt_of_le_of_lt h1 hR.len
    obtain ⟨o, vv, w5, w6, r1, r2, r3, r4, r5, r6, r7⟩ := hC.fresh h.par (baseL x) (pairL x) hb (Nat.le_trans (base_size x) hR.name) hR.name hR.value hcl
    exact ⟨o, vv, w5, w6, r1, r2, r3, r4, r5, _, by rw [plains_yes hx]; exact r7, .inr ⟨_, rfl, r6⟩, by rw [er_fresh hb, groups_yes hx, h.er]⟩
theorem L1.old {w wr : World} {Bp Bc : Nat} {pre : List Wn} {cs : List Ct} {x : Wn} {v0 v1 v2 : ByteArray} (h : L1 w wr Bp pre (some Bc) cs) (hR : Rnd pre x v0 v1 v2) (hx : star x = true) {c : Ct} (hc : c ∈ cs) (hb : c.1 = baseL x) :
    ∃ B2 vv w6, (Instr.lookup 68 (.map (some Bc)) (.string (baseL x)) true).run Tryz.prog wr = .ok (.tuple #[.map (some B2), .bool true]) wr ∧
      (Instr.lookup 52 (.map (some B2)) (.string (lower x.name)) true).run Tryz.prog wr = .ok (.tuple #[.string vv, .bool false]) wr ∧
      (Instr.mapUpdate 52 (.map (some B2)) (.string (lower x.name)) (.string x.value)).run Tryz.prog wr = .ok () w6 ∧
      ∃ cs', L1 w w6 Bp (pre ++ [x]) (some Bc) cs' := by
  rcases h.cmap with ⟨h0, _⟩ | ⟨Bc', h0, hC⟩
  · cases h0
  · cases h0
    have hg : (c.1, c.2.2) ∈ groups pre := by rw [← h.er]; exact List.mem_map.2 ⟨c, hc, rfl⟩
    have hne : ∀ q ∈ c.2.2, q.1 ≠ (pairL x).1 := by
      intro q hq
      obtain ⟨y, hy, rfl⟩ := groups_mem pre _ hg q hq
      exact hR.apart y hy
    have hcl : c.2.2.length < maxLen := Nat.lt_of_le_of_lt (group_len pre _ hg) hR.len
    obtain ⟨vv, w6, r1, r2, r3, r4, r5⟩ := hC.old h.par c (pairL x) hc (by rw [hb]; exact Nat.le_trans (base_size x) hR.name) hne hR.name hR.value hcl
    rw [hb] at r1
    exact ⟨c.2.1, vv, w6, r1, r2, r3, _, by rw [plains_yes hx]; exact r5, .inr ⟨_, rfl, r4⟩, by rw [er_old hc hb, groups_yes hx, h.er]⟩
theorem g_star {x : Wn} (h : star x = true) (hs : (lower x.name).size ≤ 1099511627776) : ∃ r, Gives 47 #[.string (lower x.name), .string ⟨#[42]⟩] (.tuple #[.string (baseL x), .string r, .bool true]) := by
  obtain ⟨r, h1, h2⟩ := star_split h
  refine ⟨tx r, ?_⟩
  have := g_cutAt (lower x.name) 42 (bl (baseL x)) r hs h1 h2
  rw [tx_bl] at this
  exact this
end Go.Proofs.YtbklpdcipfhdjaaGreatDoor.Rd
