/- The maps of ParseMediaType: the parameters, and the map of maps of the names with asterisks. -/
import Derived.Test.YtbklpdcipfhdjaaGreatDoorPe
namespace Go.Proofs.YtbklpdcipfhdjaaGreatDoor.Cm
open Go.RowKit Go.Maps Go.ChangeMaps Go.WideMaps Go.Proofs.YtbklpdcipfhdjaaGreatDoor.G Go.Proofs.YtbklpdcipfhdjaaGreatDoor.H Go.Proofs.YtbklpdcipfhdjaaGreatDoor.P Go.Proofs.YtbklpdcipfhdjaaGreatDoor.Q Go.Proofs.YtbklpdcipfhdjaaGreatDoor.T Go.Proofs.YtbklpdcipfhdjaaGreatDoor.W Go.Proofs.YtbklpdcipfhdjaaGreatDoor.Pe

/-- How a map's maps read: by their blocks. -/
def R68 (v : Value) : Option (DataW Unit × List MemPlace) :=
  match v with
  | .map (some B) => some (.lit (.int .i64 B), [])
  | .map none => some (.nil, [])
  | _ => none
theorem R68_inv {v : Value} {z : DataW Unit × List MemPlace} (h : R68 v = some z) : ∃ o, v = .map o := by
  unfold R68 at h
  split at h
  · exact ⟨_, rfl⟩
  · exact ⟨_, rfl⟩
  · cases h
theorem R68_at {v : Value} {B : Nat} {ps : List MemPlace} (h : R68 v = some (.lit (.int .i64 B), ps)) : v = .map (some B) := by
  unfold R68 at h
  split at h
  · rename_i b
    simp at h
    have : b = B := by omega
    rw [this]
  · simp at h
  · cases h

/-- A base name, the block of its map, and what this holds. -/
abbrev Ct := ByteArray × Nat × List Pr
structure DO (D : DataW Unit) (cs : List Ct) : Prop where
  has : ∀ kl, Maps.has D kl = true → ∃ c ∈ cs, kl = .string (bl c.1)
  at_ : ∀ c ∈ cs, Maps.has D (.string (bl c.1)) = true ∧ ∀ z, D.atKey (.string (bl c.1)) z = .lit (.int .i64 c.2.1)
  isMap : IsMap D
theorem DO.nil : DO (.map []) [] := ⟨fun kl h => (by cases h), fun p hp => absurd hp (by simp), ⟨[], rfl⟩⟩
theorem DO.put {D : DataW Unit} {cs : List Ct} (h : DO D cs) (c : Ct) (hp : ∀ q ∈ cs, q.1 ≠ c.1) : DO (D.put (.string (bl c.1)) (.lit (.int .i64 c.2.1))) (cs ++ [c]) := by
  refine ⟨fun kl hk => ?_, fun q hq => ?_, h.isMap.put _ _⟩
  · by_cases e : kl = .string (bl c.1)
    · exact ⟨c, by simp, e⟩
    · rw [has_put_other e] at hk
      obtain ⟨q, hq, rfl⟩ := h.has kl hk
      exact ⟨q, by simp [hq], rfl⟩
  · rcases List.mem_append.1 hq with hq | hq
    · have hne : (Lit.string (bl q.1)) ≠ .string (bl c.1) := fun e => hp q hq (key_inj e)
      rw [has_put_other hne]
      refine ⟨(h.at_ q hq).1, fun z => ?_⟩
      rw [atKey_put_other hne]
      exact (h.at_ q hq).2 z
    · simp at hq
      subst hq
      exact ⟨has_put_same h.isMap (keyLit _) _, fun z => atKey_put_same h.isMap (keyLit _) _ z⟩
theorem DO.no {D : DataW Unit} {cs : List Ct} (h : DO D cs) {b : ByteArray} (hb : ∀ c ∈ cs, c.1 ≠ b) : Maps.has D (.string (bl b)) = false := by
  cases hh : Maps.has D (.string (bl b)) with
  | false => rfl
  | true =>
    obtain ⟨c, hc, e⟩ := h.has _ hh
    exact absurd (key_inj e).symm (hb c hc)
theorem de_no {D : DataW Unit} {E : List Pr} (h : DE D E) {k : ByteArray} (hk : ∀ p ∈ E, p.1 ≠ k) : Maps.has D (.string (bl k)) = false := by
  cases hh : Maps.has D (.string (bl k)) with
  | false => rfl
  | true =>
    obtain ⟨c, hc, e⟩ := h.has _ hh
    exact absurd (key_inj e).symm (hk c hc)

/-- A map of strings in block B holds just E. -/
def OM (w : World) (B : Nat) (E : List Pr) : Prop := ∃ D, w.ownsMap Tryz.prog 9 (plainElem Tryz.prog 9) B E.length D ∧ DE D E
theorem OM.kept {w w' : World} {B : Nat} {E : List Pr} {row : Option Nat} (h : OM w B E) (hg : w.grownBy w' row) (hne : some B ≠ row) : OM w' B E := by
  obtain ⟨D, h1, h2⟩ := h
  exact ⟨D, h1.kept hg hne, h2⟩
theorem gb_of {w w' : World} (hb : Below w.heap.size w w') : w.grownBy w' none := ⟨hb.os, hb.tape, hb.output, hb.size, fun i hi _ => hb.block i hi⟩
theorem OM.next {w w' : World} {B : Nat} {E : List Pr} (h : OM w B E) (hb : Below w.heap.size w w') : OM w' B E := h.kept (gb_of hb) (by simp)
theorem OM.lt {w : World} {B : Nat} {E : List Pr} (h : OM w B E) : B < w.heap.size := by
  obtain ⟨D, h1, _⟩ := h
  exact h1.lt
theorem OM.made (w : World) : OM (w.alloc (.map #[] 0)) w.heap.size [] := ⟨_, World.ownsMap_made _ _ _ _, DE.nil⟩
theorem OM.no {w : World} {B : Nat} {E : List Pr} (h : OM w B E) {k : ByteArray} (hs : k.size ≤ 1099511627776) (hk : ∀ p ∈ E, p.1 ≠ k) :
    ∃ v : ByteArray, (Instr.lookup 52 (.map (some B)) (.string k) true).run Tryz.prog w = .ok (.tuple #[.string v, .bool false]) w := by
  obtain ⟨D, h1, h2⟩ := h
  obtain ⟨v, ps, hr, hv⟩ := h1.look_ok law Tryz.underlying52 (zeroE _) (plainElem_string Tryz.underlying9 (by decide)) (hkey _ hs)
  obtain ⟨c, rfl, _⟩ := plainElem_string_inv Tryz.underlying9 hv
  rw [de_no h2 hk] at hr
  exact ⟨c, hr⟩
theorem OM.yes {w : World} {B : Nat} {E : List Pr} (h : OM w B E) {p : Pr} (hs : p.1.size ≤ 1099511627776) (hp : p ∈ E) :
    (Instr.lookup 52 (.map (some B)) (.string p.1) true).run Tryz.prog w = .ok (.tuple #[.string p.2, .bool true]) w := by
  obtain ⟨D, h1, h2⟩ := h
  obtain ⟨v, ps, hr, hv⟩ := h1.look_ok law Tryz.underlying52 (zeroE _) (plainElem_string Tryz.underlying9 (by decide)) (hkey _ hs)
  rw [(h2.at_ p hp).2] at hv
  obtain ⟨c, rfl, hc⟩ := plainElem_string_inv Tryz.underlying9 hv
  rw [(h2.at_ p hp).1] at hr
  have : c = p.2 := by
    have h3 := hc.1
    simp only [Prod.mk.injEq, DataW.lit.injEq, Lit.string.injEq] at h3
    exact (eq_of_bl h3.1).symm
  rw [this] at hr
  exact hr
theorem OM.store {w : World} {B : Nat} {E : List Pr} (h : OM w B E) (p : Pr) (hp : ∀ q ∈ E, q.1 ≠ p.1) (hs : p.1.size ≤ 1099511627776) (hv : p.2.size ≤ 1099511627776) (hn : E.length < maxLen) :
    ∃ w', (Instr.mapUpdate 52 (.map (some B)) (.string p.1) (.string p.2)).run Tryz.prog w = .ok () w' ∧ OM w' B (E ++ [p]) ∧ w.grownBy w' (some B) := by
  obtain ⟨D, h1, h2⟩ := h
  obtain ⟨w', hr, ho, hg⟩ := h1.update law Tryz.underlying52 hn (hkey _ hs) (plainElem_string (H := Unit) Tryz.underlying9 (s := p.2) (by unfold maxLen; omega))
  exact ⟨w', hr, ⟨_, by rw [List.length_append]; exact ho, h2.put p hp⟩, hg⟩

/-- The map of maps in block Bc, and its maps; the parameters are in block Bp. -/
structure CM (w0 wr : World) (Bp Bc : Nat) (cs : List Ct) : Prop where
  outer : ∃ D, wr.ownsMap Tryz.prog 9 R68 Bc cs.length D ∧ DO D cs
  ge : w0.heap.size ≤ Bc
  neP : Bc ≠ Bp
  inner : ∀ c ∈ cs, OM wr c.2.1 c.2.2 ∧ w0.heap.size ≤ c.2.1 ∧ c.2.1 ≠ Bp ∧ c.2.1 ≠ Bc
  names : (cs.map (·.1)).Nodup
  blocks : (cs.map (·.2.1)).Nodup
/-- The parameters in block Bp. -/
structure PM (w0 wr : World) (Bp : Nat) (E : List Pr) : Prop where
  om : OM wr Bp E
  ge : w0.heap.size ≤ Bp
  below : Below w0.heap.size w0 wr
theorem PM.next {w0 wr wr' : World} {Bp : Nat} {E : List Pr} (h : PM w0 wr Bp E) (hb : Below wr.heap.size wr wr') : PM w0 wr' Bp E := ⟨h.om.next hb, h.ge, chain h.below hb⟩
theorem CM.kept {w0 wr wr' : World} {Bp Bc : Nat} {cs : List Ct} {row : Option Nat} (h : CM w0 wr Bp Bc cs) (hg : wr.grownBy wr' row) (h1 : some Bc ≠ row) (h2 : ∀ c ∈ cs, some c.2.1 ≠ row) : CM w0 wr' Bp Bc cs := by
  obtain ⟨D, h3, h4⟩ := h.outer
  exact ⟨⟨D, h3.kept hg h1, h4⟩, h.ge, h.neP, fun c hc => ⟨(h.inner c hc).1.kept hg (h2 c hc), (h.inner c hc).2⟩, h.names, h.blocks⟩
theorem CM.next {w0 wr wr' : World} {Bp Bc : Nat} {cs : List Ct} (h : CM w0 wr Bp Bc cs) (hb : Below wr.heap.size wr wr') : CM w0 wr' Bp Bc cs := h.kept (gb_of hb) (by simp) (by simp)
theorem CM.start {w0 wr : World} {Bp : Nat} {E : List Pr} (h : PM w0 wr Bp E) : CM w0 (wr.alloc (.map #[] 0)) Bp wr.heap.size [] :=
  ⟨⟨_, World.ownsMap_made _ _ _ _, DO.nil⟩, h.below.size, fun e => by have := h.om.lt; omega, by simp, by simp, by simp⟩
theorem PM.store {w0 wr : World} {Bp : Nat} {E : List Pr} (h : PM w0 wr Bp E) (p : Pr) (hp : ∀ q ∈ E, q.1 ≠ p.1) (hs : p.1.size ≤ 1099511627776) (hv : p.2.size ≤ 1099511627776) (hn : E.length < maxLen) :
    ∃ w', (Instr.mapUpdate 52 (.map (some Bp)) (.string p.1) (.string p.2)).run Tryz.prog wr = .ok () w' ∧ PM w0 w' Bp (E ++ [p]) ∧ (∀ Bc cs, CM w0 wr Bp Bc cs → CM w0 w' Bp Bc cs) ∧ wr.grownBy w' (some Bp) := by
  obtain ⟨w', hr, ho, hg⟩ := h.om.store p hp hs hv hn
  refine ⟨w', hr, ⟨ho, h.ge, h.below.grown hg h.below.size (fun k hk => by cases hk; exact h.ge)⟩, fun Bc cs hc => hc.kept hg (fun e => hc.neP (Option.some.inj e)) (fun c hcs e => (hc.inner c hcs).2.2.1 (Option.some.inj e)), hg⟩

theorem zero52 (w : World) : (zeroValue 52).run Tryz.prog w = .ok (.map none) w := by kernel_rfl
theorem CM.no {w0 wr : World} {Bp Bc : Nat} {cs : List Ct} (h : CM w0 wr Bp Bc cs) {b : ByteArray} (hs : b.size ≤ 1099511627776) (hb : ∀ c ∈ cs, c.1 ≠ b) :
    ∃ o, (Instr.lookup 68 (.map (some Bc)) (.string b) true).run Tryz.prog wr = .ok (.tuple #[.map o, .bool false]) wr := by
  obtain ⟨D, h1, h2⟩ := h.outer
  obtain ⟨v, ps, hr, hv⟩ := h1.look_ok law Tryz.underlying68 (zero52 _) (zd := .nil) (zp := []) rfl (hkey _ hs)
  obtain ⟨o, rfl⟩ := R68_inv hv
  rw [h2.no hb] at hr
  exact ⟨o, hr⟩
theorem CM.yes {w0 wr : World} {Bp Bc : Nat} {cs : List Ct} (h : CM w0 wr Bp Bc cs) {c : Ct} (hs : c.1.size ≤ 1099511627776) (hc : c ∈ cs) :
    (Instr.lookup 68 (.map (some Bc)) (.string c.1) true).run Tryz.prog wr = .ok (.tuple #[.map (some c.2.1), .bool true]) wr ∧
    (Instr.lookup 68 (.map (some Bc)) (.string c.1) false).run Tryz.prog wr = .ok (.map (some c.2.1)) wr := by
  obtain ⟨D, h1, h2⟩ := h.outer
  constructor
  · obtain ⟨v, ps, hr, hv⟩ := h1.look_ok law Tryz.underlying68 (zero52 _) (zd := .nil) (zp := []) rfl (hkey _ hs)
    rw [(h2.at_ c hc).2] at hv
    rw [(h2.at_ c hc).1] at hr
    rw [R68_at hv] at hr
    exact hr
  · obtain ⟨v, ps, hr, hv⟩ := h1.lookup law Tryz.underlying68 (zero52 _) (zd := .nil) (zp := []) rfl (hkey _ hs)
    rw [(h2.at_ c hc).2] at hv
    rw [R68_at hv] at hr
    exact hr

/-- A name with an asterisk whose base is new: an inner map is made and laid into the outer one, and the parameter into it. -/
theorem CM.fresh {w0 wr : World} {Bp Bc : Nat} {cs : List Ct} {E : List Pr} (h : CM w0 wr Bp Bc cs) (hP : PM w0 wr Bp E) (b : ByteArray) (p : Pr) (hb : ∀ c ∈ cs, c.1 ≠ b) (hbs : b.size ≤ 1099511627776) (hs : p.1.size ≤ 1099511627776) (hv : p.2.size ≤ 1099511627776) (hn : cs.length < maxLen) :
    ∃ o vv w5 w6, (Instr.lookup 68 (.map (some Bc)) (.string b) true).run Tryz.prog wr = .ok (.tuple #[.map o, .bool false]) wr ∧
      (Instr.mapUpdate 68 (.map (some Bc)) (.string b) (.map (some wr.heap.size))).run Tryz.prog (wr.alloc (.map #[] 0)) = .ok () w5 ∧
      (Instr.lookup 68 (.map (some Bc)) (.string b) false).run Tryz.prog w5 = .ok (.map (some wr.heap.size)) w5 ∧
      (Instr.lookup 52 (.map (some wr.heap.size)) (.string p.1) true).run Tryz.prog w5 = .ok (.tuple #[.string vv, .bool false]) w5 ∧
      (Instr.mapUpdate 52 (.map (some wr.heap.size)) (.string p.1) (.string p.2)).run Tryz.prog w5 = .ok () w6 ∧
      CM w0 w6 Bp Bc (cs ++ [(b, wr.heap.size, [p])]) ∧ PM w0 w6 Bp E := by
  obtain ⟨o, h1⟩ := h.no hbs hb
  have hal : Below wr.heap.size wr (wr.alloc (.map #[] 0)) := (Below.refl _ wr).alloc (Nat.le_refl _) _
  have hC := h.next hal
  have hPa := hP.next hal
  have hOM := OM.made wr
  obtain ⟨D, h3, h4⟩ := hC.outer
  have hBc : Bc < wr.heap.size := by obtain ⟨D, h5, _⟩ := h.outer; exact h5.lt
  have hBp : Bp < wr.heap.size := hP.om.lt
  obtain ⟨w5, hr5, ho5, hg5⟩ := h3.update law Tryz.underlying68 hn (val := .map (some wr.heap.size)) (hkey _ hbs) (d := .lit (.int .i64 wr.heap.size)) (ps := []) rfl
  have hO5 : DO (D.put (.string (bl b)) (.lit (.int .i64 wr.heap.size))) (cs ++ [(b, wr.heap.size, [p])]) := h4.put (b, wr.heap.size, [p]) hb
  have hOM5 := hOM.kept hg5 (fun e => by have := Option.some.inj e; omega)
  have hin5 : ∀ c ∈ cs, OM w5 c.2.1 c.2.2 := fun c hc => (hC.inner c hc).1.kept hg5 (fun e => (hC.inner c hc).2.2.2 (Option.some.inj e))
  have hP5 : OM w5 Bp E := hPa.om.kept hg5 (fun e => h.neP (Option.some.inj e).symm)
  obtain ⟨v2, ps2, hr6, hv6⟩ := ho5.lookup law Tryz.underlying68 (zero52 _) (zd := .nil) (zp := []) rfl (hkey _ hbs)
  have hlast := (hO5.at_ (b, wr.heap.size, [p]) (by simp)).2 .nil
  simp only at hlast
  rw [hlast] at hv6
  rw [R68_at hv6] at hr6
  obtain ⟨vv, hr7⟩ := hOM5.no (k := p.1) hs (by simp)
  obtain ⟨w6, hr8, ho8, hg8⟩ := hOM5.store p (by simp) hs hv (by simp [maxLen])
  have hlt : ∀ c ∈ cs, c.2.1 < wr.heap.size := fun c hc => (h.inner c hc).1.lt
  refine ⟨o, vv, w5, w6, h1, hr5, hr6, hr7, hr8, ⟨⟨_, ?_, hO5⟩, h.ge, h.neP, ?_, ?_, ?_⟩, ⟨hP5.kept hg8 (fun e => by have := Option.some.inj e; omega), hP.ge, ?_⟩⟩
  · rw [List.length_append]
    exact ho5.kept hg8 (fun e => by have := Option.some.inj e; omega)
  · intro c hc
    rcases List.mem_append.1 hc with hc | hc
    · exact ⟨(hin5 c hc).kept hg8 (fun e => by have h9 := Option.some.inj e; have := hlt c hc; omega), (h.inner c hc).2⟩
    · simp at hc
      subst hc
      exact ⟨ho8, hP.below.size, by show wr.heap.size ≠ Bp; omega, by show wr.heap.size ≠ Bc; omega⟩
  · rw [List.map_append, List.nodup_append]
    refine ⟨h.names, by simp, ?_⟩
    intro a ha b' hb' e
    obtain ⟨q, hq, rfl⟩ := List.mem_map.1 ha
    simp at hb'
    exact hb q hq (e.trans hb')
  · rw [List.map_append, List.nodup_append]
    refine ⟨h.blocks, by simp, ?_⟩
    intro a ha b' hb' e
    obtain ⟨q, hq, rfl⟩ := List.mem_map.1 ha
    simp at hb'
    have := hlt q hq
    omega
  · exact (hPa.below.grown hg5 hPa.below.size (fun k hk => by cases hk; exact h.ge)).grown hg8 (by have := hPa.below.size; have := hg5.size; omega) (fun k hk => by cases hk; exact hP.below.size)

theorem same_of {α β : Type} (f : α → β) : ∀ (E : List α), (E.map f).Nodup → ∀ a b, a ∈ E → b ∈ E → f a = f b → a = b
  | [], _, _, _, h, _, _ => absurd h (by simp)
  | p :: E, hn, a, b, ha, hb, e => by
    rw [List.map_cons, List.nodup_cons] at hn
    rcases List.mem_cons.1 ha with h1 | h1
    · rcases List.mem_cons.1 hb with h2 | h2
      · exact h1.trans h2.symm
      · exact absurd (List.mem_map.2 ⟨b, h2, e.symm.trans (by rw [h1])⟩) hn.1
    · rcases List.mem_cons.1 hb with h2 | h2
      · exact absurd (List.mem_map.2 ⟨a, h1, e.trans (by rw [h2])⟩) hn.1
      · exact same_of f E hn.2 a b h1 h2 e
theorem same_name (cs : List Ct) (h : (cs.map (·.1)).Nodup) (q c : Ct) (hq : q ∈ cs) (hc : c ∈ cs) (e : q.1 = c.1) : q = c := same_of (·.1) cs h q c hq hc e
theorem same_block (cs : List Ct) (h : (cs.map (·.2.1)).Nodup) (q c : Ct) (hq : q ∈ cs) (hc : c ∈ cs) (e : q.2.1 = c.2.1) : q = c := same_of (·.2.1) cs h q c hq hc e
/-- The entry of a base grows. -/
def addC (b : ByteArray) (p : Pr) (cs : List Ct) : List Ct := cs.map fun c => if bl c.1 == bl b then (c.1, c.2.1, c.2.2 ++ [p]) else c
theorem addC_names (b : ByteArray) (p : Pr) (cs : List Ct) : (addC b p cs).map (·.1) = cs.map (·.1) := by
  unfold addC
  rw [List.map_map]
  apply List.map_congr_left
  intro c _
  simp only [Function.comp]
  split <;> rfl
theorem addC_blocks (b : ByteArray) (p : Pr) (cs : List Ct) : (addC b p cs).map (·.2.1) = cs.map (·.2.1) := by
  unfold addC
  rw [List.map_map]
  apply List.map_congr_left
  intro c _
  simp only [Function.comp]
  split <;> rfl
theorem DO.addC {D : DataW Unit} {cs : List Ct} (h : DO D cs) (b : ByteArray) (p : Pr) : DO D (addC b p cs) := by
  refine ⟨fun kl hk => ?_, fun c hc => ?_, h.isMap⟩
  · obtain ⟨c, hc, e⟩ := h.has kl hk
    refine ⟨_, List.mem_map.2 ⟨c, hc, rfl⟩, ?_⟩
    rw [e]; split <;> rfl
  · obtain ⟨q, hq, rfl⟩ := List.mem_map.1 hc
    have := h.at_ q hq
    split <;> exact this
/-- A name with an asterisk whose base is known. -/
theorem CM.old {w0 wr : World} {Bp Bc : Nat} {cs : List Ct} {E : List Pr} (h : CM w0 wr Bp Bc cs) (hP : PM w0 wr Bp E) (c : Ct) (p : Pr) (hc : c ∈ cs) (hbs : c.1.size ≤ 1099511627776) (hp : ∀ q ∈ c.2.2, q.1 ≠ p.1) (hs : p.1.size ≤ 1099511627776) (hv : p.2.size ≤ 1099511627776) (hn : c.2.2.length < maxLen) :
    ∃ vv w6, (Instr.lookup 68 (.map (some Bc)) (.string c.1) true).run Tryz.prog wr = .ok (.tuple #[.map (some c.2.1), .bool true]) wr ∧
      (Instr.lookup 52 (.map (some c.2.1)) (.string p.1) true).run Tryz.prog wr = .ok (.tuple #[.string vv, .bool false]) wr ∧
      (Instr.mapUpdate 52 (.map (some c.2.1)) (.string p.1) (.string p.2)).run Tryz.prog wr = .ok () w6 ∧
      CM w0 w6 Bp Bc (addC c.1 p cs) ∧ PM w0 w6 Bp E := by
  have h1 := (h.yes hbs hc).1
  obtain ⟨hO, hge, hnP, hnC⟩ := h.inner c hc
  obtain ⟨vv, h2⟩ := hO.no (k := p.1) hs hp
  obtain ⟨w6, hr, ho, hg⟩ := hO.store p hp hs hv hn
  obtain ⟨D, h3, h4⟩ := h.outer
  refine ⟨vv, w6, h1, h2, hr, ⟨⟨D, ?_, h4.addC _ _⟩, h.ge, h.neP, ?_, by rw [addC_names]; exact h.names, by rw [addC_blocks]; exact h.blocks⟩, ⟨hP.om.kept hg (fun e => hnP (Option.some.inj e).symm), hP.ge, hP.below.grown hg hP.below.size (fun k hk => by cases hk; exact hge)⟩⟩
  · have e : (addC c.1 p cs).length = cs.length := by simp [addC]
    rw [e]
    exact h3.kept hg (fun e => hnC (Option.some.inj e).symm)
  · intro d hd
    obtain ⟨q, hq, rfl⟩ := List.mem_map.1 hd
    by_cases hqc : q = c
    · subst hqc
      rw [if_pos (by simp)]
      exact ⟨ho, hge, hnP, hnC⟩
    · have hb : q.1 ≠ c.1 := fun e => hqc (same_name cs h.names q c hq hc e)
      have hB : q.2.1 ≠ c.2.1 := fun e => hqc (same_block cs h.blocks q c hq hc e)
      rw [if_neg (by simp; intro e; exact hb (eq_of_bl (congrArg Array.toList e)))]
      exact ⟨(h.inner q hq).1.kept hg (fun e => hB (Option.some.inj e)), (h.inner q hq).2⟩
end Go.Proofs.YtbklpdcipfhdjaaGreatDoor.Cm
