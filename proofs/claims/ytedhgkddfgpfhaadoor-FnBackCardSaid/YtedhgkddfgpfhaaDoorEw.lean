/- The walks of base64's stream encoder: NewEncoder, Write and Close. -/
import Derived.Test.YtedhgkddfgpfhaaDoorEn
import Derived.Test.YtedhgkddfgpfhaaDoorBw
import Derived.Handy
import Derived.Deep.RegionWith
namespace Go.Proofs.YtedhgkddfgpfhaaDoor.Ew
open Go.RowKit Go.Proofs.YtedhgkddfgpfhaaDoor.B64 Go.Proofs.YtedhgkddfgpfhaaDoor.N Go.Proofs.YtedhgkddfgpfhaaDoor.En Go.Proofs.YtedhgkddfgpfhaaDoor.Bd

/-- Block e is a stream encoder over the encoding in g and the builder in b, with the bytes bf in its buffer. -/
structure Ek (e g b : Nat) (bf : List UInt8) (w : World) : Prop where
  shape : w.shape? e = some (144, 1031)
  nofz : ∀ o, w.frozen? ⟨e, o, none⟩ = false
  c0 : w.cell? ⟨e, 0, none⟩ = some .nilIface
  c1 : w.cell? ⟨e, 1, none⟩ = some (.pointer (some ⟨g, 0, none⟩))
  c2 : w.cell? ⟨e, 2, none⟩ = some (.iface 45 (.pointer (some ⟨b, 0, none⟩)))
  c6 : w.cell? ⟨e, 6, none⟩ = some (.int .i64 bf.length)
  some_ : ∀ o, o < 1031 → (w.cell? ⟨e, o, none⟩).isSome = true
  buf : ∀ j x, bf[j]? = some x → w.cell? ⟨e, 3 + j, none⟩ = some (.int .u8 x.toNat)

theorem Ek.same {e g b : Nat} {bf : List UInt8} {w w' : World} (h : Ek e g b bf w) (hk : w'.heap[e]? = w.heap[e]?) : Ek e g b bf w' := by
  have hc : ∀ o, w'.cell? ⟨e, o, none⟩ = w.cell? ⟨e, o, none⟩ := fun o => World.cell?_of_block (w := w) hk
  have hf : ∀ o, w'.frozen? ⟨e, o, none⟩ = w.frozen? ⟨e, o, none⟩ := fun o => World.frozen?_of_block (w := w) hk
  refine ⟨?_, fun o => (hf o).trans (h.nofz o), (hc 0).trans h.c0, (hc 1).trans h.c1, (hc 2).trans h.c2, (hc 6).trans h.c6, fun o ho => by rw [hc]; exact h.some_ o ho, fun j x hx => (hc _).trans (h.buf j x hx)⟩
  have := h.shape
  unfold World.shape? at *
  rw [hk]; exact this

theorem Ek.row {e g b : Nat} {bf : List UInt8} {w : World} (h : Ek e g b bf w) : ∃ c fz, w.heap[e]? = some (.cells c 144 fz) := by
  have := h.shape
  unfold World.shape? at this
  split at this
  · rename_i c t fz he
    simp only [Option.some.injEq, Prod.mk.injEq] at this
    obtain ⟨rfl, _⟩ := this
    exact ⟨c, fz, he⟩
  · cases this

/-- What is written into the encoder's own out changes nothing of it. -/
theorem Ek.sc {e g b : Nat} {bf : List UInt8} {w w' : World} (h : Ek e g b bf w) (hl : bf.length ≤ 3) (hs : Sc e 7 w w') : Ek e g b bf w' := by
  refine ⟨hs.shape.trans h.shape, fun o => (hs.frozen o).trans (h.nofz o), (hs.cell 0 (by omega)).trans h.c0, (hs.cell 1 (by omega)).trans h.c1, (hs.cell 2 (by omega)).trans h.c2, (hs.cell 6 (by omega)).trans h.c6, fun o ho => hs.some_ o (h.some_ o ho), fun j x hx => ?_⟩
  have := (List.getElem?_eq_some_iff.1 hx).1
  exact (hs.cell _ (by omega)).trans (h.buf j x hx)

/-- A write to the builder changes nothing of it. -/
theorem Ek.wr {e g b B : Nat} {bf : List UInt8} {w w' : World} (h : Ek e g b bf w) (he : e ≠ b) (hw : Wr B b w w') : Ek e g b bf w' := by
  obtain ⟨c, fz, hc⟩ := h.row
  exact h.same ((hw.others e _ hc (by simpa using he) (by simp)).trans hc.symm)
theorem enc_wr {g b B k : Nat} {w w' : World} (h : IsEnc g k w) (hg : g ≠ b) (hw : Wr B b w w') : IsEnc g k w' :=
  hw.others g _ h (by simpa using hg) (by simp)
theorem enc_sc {g e lo k : Nat} {w w' : World} (h : IsEnc g k w) (hg : g ≠ e) (hw : Sc e lo w w') : IsEnc g k w' := (hw.block g hg).trans h
theorem below_sc {B e lo : Nat} {w w' : World} (hB : B ≤ e) (hw : Sc e lo w w') : Below B w w' := ⟨hw.os, hw.tape, hw.output, by rw [hw.size]; exact Nat.le_refl _, fun k hk => hw.block k (by omega)⟩
theorem bd_sc {B b e lo : Nat} {l : List UInt8} {w w' : World} (h : Bd B b l w) (he : e ≠ b) (hrow : w.shape? e = some (144, 1031)) (hw : Sc e lo w w') : Bd B b l w' := by
  refine h.kept fun k o hk hko => ?_
  rw [hw.block k ?_]
  · exact hk
  · intro e'
    subst e'
    rcases hko with rfl | ⟨c, fz, rfl⟩
    · exact he rfl
    · simp [World.shape?, hk] at hrow

set_option maxHeartbeats 8000000 in
set_option maxRecDepth 100000 in
theorem newEncoder (g b : Nat) (w : World) :
    Calls Tryd.prog 51 #[.pointer (some ⟨g, 0, none⟩), .iface 45 (.pointer (some ⟨b, 0, none⟩))] w fun r w' => r = .returned (.iface 140 (.pointer (some ⟨w.heap.size, 0, none⟩))) ∧ Below w.heap.size w w' ∧ Ek w.heap.size g b [] w' := by
  go_enter Tryd.func51, Tryd.ntmps51
  go_wp2_with fail
  go_ret
  refine ⟨rfl, (Below.refl _ w).alloc (Nat.le_refl _) _, ?_⟩
  generalize hC : (Tryd.zeroCells144.setIfInBounds 1 (Value.pointer (some ⟨g, 0, none⟩))).setIfInBounds 2 (Value.iface 45 (Value.pointer (some ⟨b, 0, none⟩))) = C
  have hsz : C.size = 1031 := by rw [← hC]; simp only [Array.size_setIfInBounds]; kernel_rfl
  have hh : (w.alloc (Obj.cells C 144)).heap[w.heap.size]? = some (.cells C 144 (0, 0)) := heap_alloc_new w _
  have hc : ∀ o, (w.alloc (Obj.cells C 144)).cell? ⟨w.heap.size, o, none⟩ = C[o]? := fun o => by unfold World.cell?; rw [hh]; rfl
  refine ⟨by unfold World.shape?; rw [hh]; simp only [hsz], fun o => by unfold World.frozen?; rw [hh]; simp, ?_, ?_, ?_, ?_, fun o ho => ?_, fun j x hx => by simp at hx⟩
  · rw [hc, ← hC]; kernel_rfl
  · rw [hc, ← hC]; kernel_rfl
  · rw [hc, ← hC]; kernel_rfl
  · rw [hc, ← hC]; kernel_rfl
  · rw [hc, Array.getElem?_eq_getElem (by omega)]; rfl

theorem setc (w : World) (e o : Nat) (v : Value) (p : Nat) : (w.setCell ⟨e, o, none⟩ v).cell? ⟨e, p, none⟩ = if o = p then (w.cell? ⟨e, p, none⟩).map (fun _ => v) else w.cell? ⟨e, p, none⟩ := cell_set w e o p v

theorem ek_set {e g b o : Nat} {bf bf' : List UInt8} {w : World} {v : Value} (h : Ek e g b bf w) (h0 : 3 ≤ o) (h6 : o < 6) (hl : bf'.length = bf.length)
    (hb : ∀ j x, bf'[j]? = some x → (if o = 3 + j then some v else w.cell? ⟨e, 3 + j, none⟩) = some (.int .u8 x.toNat)) : Ek e g b bf' (w.setCell ⟨e, o, none⟩ v) := by
  have hs := Sc.set e 3 o w v h0
  refine ⟨hs.shape.trans h.shape, fun p => (hs.frozen p).trans (h.nofz p), (hs.cell 0 (by omega)).trans h.c0, (hs.cell 1 (by omega)).trans h.c1, (hs.cell 2 (by omega)).trans h.c2, ?_, fun p hp => hs.some_ p (h.some_ p hp), fun j x hx => ?_⟩
  · rw [setc, if_neg (by omega), hl]; exact h.c6
  · rw [setc, ← hb j x hx]
    split
    · rename_i e1
      have := h.some_ (3 + j) (by omega)
      cases hc : w.cell? ⟨e, 3 + j, none⟩ with
      | none => rw [hc] at this; cases this
      | some z => rfl
    · rfl
theorem ek_nb {e g b : Nat} {bf bf' : List UInt8} {w : World} (h : Ek e g b bf w) (hb : ∀ j x, bf'[j]? = some x → w.cell? ⟨e, 3 + j, none⟩ = some (.int .u8 x.toNat)) (hl : bf'.length ≤ 3) : Ek e g b bf' (w.setCell ⟨e, 6, none⟩ (.int .i64 bf'.length)) := by
  have hs := Sc.set e 6 6 w (.int .i64 bf'.length) (by omega)
  refine ⟨hs.shape.trans h.shape, fun p => (hs.frozen p).trans (h.nofz p), (hs.cell 0 (by omega)).trans h.c0, (hs.cell 1 (by omega)).trans h.c1, (hs.cell 2 (by omega)).trans h.c2, ?_, fun p hp => hs.some_ p (h.some_ p hp), fun j x hx => ?_⟩
  · rw [setc, if_pos rfl, h.c6]; rfl
  · have := (List.getElem?_eq_some_iff.1 hx).1
    rw [setc, if_neg (by omega)]; exact hb j x hx

/-- The bytes of a slice that comes in. -/
def Pc (pb po : Nat) (xs : List UInt8) (w : World) : Prop := ∀ j x, xs[j]? = some x → w.cell? ⟨pb, po + j, none⟩ = some (.int .u8 x.toNat)

theorem st1 (w : World) (ad : Addr) (v : Value) (h1 : v.oneCell' = true) (hd : (w.cell? ad).isSome = true) (hf : w.frozen? ad = false) : (store ad v).run Tryd.prog w = .ok () (w.setCell ad v) := by
  obtain ⟨z, hz⟩ := Option.isSome_iff_exists.1 hd
  rw [run_store Tryd.prog w ad v _ h1, hz]
  simp [hf]

theorem copy0 (w : World) (e c : Nat) (a : Option Addr) : (Builtin.copy_ #[46, 46] 3 #[.slice (some ⟨e, 3, none⟩) 3 3, .slice a 0 c]).run Tryd.prog w = .ok (.int .i64 0) w := by
  have hm : Nat.min 0 3 = 0 := rfl
  cases a with
  | none => simp [Builtin.copy_, run_underlying Tryd.underlying46, Builtin.lenOf, Builtin.firstCells, hm, storeCells, goInt]
  | some ad => simp [Builtin.copy_, run_underlying Tryd.underlying46, Builtin.lenOf, Builtin.firstCells, hm, storeCells, goInt, loadCells, loadCellsFrom]

theorem copy1 (w : World) (e c : Nat) (pb po : Nat) (x0 : UInt8) (h0 : w.cell? ⟨pb, po, none⟩ = some (.int .u8 x0.toNat)) (hd : (w.cell? ⟨e, 3, none⟩).isSome = true) (hf : w.frozen? ⟨e, 3, none⟩ = false) :
    (Builtin.copy_ #[46, 46] 3 #[.slice (some ⟨e, 3, none⟩) 3 3, .slice (some ⟨pb, po, none⟩) 1 c]).run Tryd.prog w = .ok (.int .i64 1) (w.setCell ⟨e, 3, none⟩ (.int .u8 x0.toNat)) := by
  have hm : Nat.min 1 3 = 1 := rfl
  have hst := st1 w ⟨e, 3, none⟩ (.int .u8 x0.toNat) rfl hd hf
  simp [Builtin.copy_, run_underlying Tryd.underlying46, Builtin.lenOf, Builtin.firstCells, hm, storeCells, goInt, loadCells, loadCellsFrom, Addr.add, run_load, h0, hst]

theorem copy2 (w : World) (e c : Nat) (pb po : Nat) (x0 x1 : UInt8) (h0 : w.cell? ⟨pb, po, none⟩ = some (.int .u8 x0.toNat)) (h1 : w.cell? ⟨pb, po + 1, none⟩ = some (.int .u8 x1.toNat)) (hd : ∀ o, o < 1031 → (w.cell? ⟨e, o, none⟩).isSome = true) (hf : ∀ o, w.frozen? ⟨e, o, none⟩ = false) :
    (Builtin.copy_ #[46, 46] 3 #[.slice (some ⟨e, 3, none⟩) 3 3, .slice (some ⟨pb, po, none⟩) 2 c]).run Tryd.prog w = .ok (.int .i64 2) ((w.setCell ⟨e, 3, none⟩ (.int .u8 x0.toNat)).setCell ⟨e, 4, none⟩ (.int .u8 x1.toNat)) := by
  have hm : Nat.min 2 3 = 2 := rfl
  have hst := st1 w ⟨e, 3, none⟩ (.int .u8 x0.toNat) rfl (hd 3 (by omega)) (hf 3)
  have hs := Sc.set e 3 3 w (.int .u8 x0.toNat) (by omega)
  have hst2 := st1 (w.setCell ⟨e, 3, none⟩ (.int .u8 x0.toNat)) ⟨e, 4, none⟩ (.int .u8 x1.toNat) rfl (hs.some_ 4 (hd 4 (by omega))) ((hs.frozen 4).trans (hf 4))
  simp [Builtin.copy_, run_underlying Tryd.underlying46, Builtin.lenOf, Builtin.firstCells, hm, storeCells, goInt, loadCells, loadCellsFrom, Addr.add, run_load, h0, h1, hst, hst2]

/-- What a write to the encoder leaves: the encoder, its encoding, the builder. -/
structure Ew (B e g b : Nat) (l bf : List UInt8) (w w' : World) : Prop where
  ek : Ek e g b bf w'
  enc : IsEnc g 64 w'
  bd : Bd B b l w'
  below : Below B w w'

theorem cell_heap {w W : World} (h : W.heap = w.heap) (a : Addr) : W.cell? a = w.cell? a := by unfold World.cell?; rw [h]
theorem frozen_heap {w W : World} (h : W.heap = w.heap) (a : Addr) : W.frozen? a = w.frozen? a := by unfold World.frozen?; rw [h]

/-- What the call of Encode leaves. -/
def Ec (e lo : Nat) (l : List UInt8) (w w' : World) : Prop := Sc e lo w w' ∧ Out e lo l w'

theorem enc_call {e g b pb po k c : Nat} {bf xs : List UInt8} {w : World} (hE : Ek e g b bf w) (hI : IsEnc g 64 w) (hP : Pc pb po xs w) (hge : g ≠ e) (hpe : pb ≠ e) (hk : k ≤ xs.length) (hk0 : 0 < k) (hk6 : k ≤ 60) (hkc : k ≤ c) :
    ∀ W : World, W.heap = w.heap → Calls Tryd.prog 97 #[.pointer (some ⟨g, 0, none⟩), .slice (some ⟨e, 7, none⟩) 1024 1024, .slice (some ⟨pb, po, none⟩) k c] W fun r w' => r = .returned (.tuple #[]) ∧ Ec e 7 (b64 (xs.take k)) W w' := by
  intro W hW
  refine encode_any g e 7 pb po k c (xs.take k) W ?_ hge ?_ (by rw [List.length_take]; omega) hk0 hk6 hkc ?_
  · unfold IsEnc; rw [hW]; exact hI
  · intro j hj; rw [cell_heap hW, frozen_heap hW]; exact ⟨hE.some_ _ (by omega), hE.nofz _⟩
  · intro w' hs j x hx
    have hb := hs.block pb hpe
    rw [hW] at hb
    rw [show w'.cell? ⟨pb, po + j, none⟩ = w.cell? ⟨pb, po + j, none⟩ from World.cell?_of_block (w := w) hb]
    rw [List.getElem?_take] at hx
    split at hx
    · exact hP j x hx
    · cases hx

/-- Two worlds that differ in their draws alone. -/
def Al (w W : World) : Prop := W.heap = w.heap ∧ W.os = w.os ∧ W.tape = w.tape ∧ W.output = w.output
theorem Al.below {w W : World} (h : Al w W) (B : Nat) : Below B w W := ⟨h.2.1, h.2.2.1, h.2.2.2, by rw [h.1]; exact Nat.le_refl _, fun k _ => by rw [h.1]⟩

theorem bd_heap {B b : Nat} {l : List UInt8} {w W : World} (h : Bd B b l w) (hW : W.heap = w.heap) : Bd B b l W := h.kept fun k o hk _ => by rw [hW]; exact hk

/-- The encoder, its encoding, the builder and the bytes that came in. -/
structure All (B e g b pb po : Nat) (l bf xs : List UInt8) (w wr : World) : Prop where
  ek : Ek e g b bf wr
  enc : IsEnc g 64 wr
  bd : Bd B b l wr
  below : Below B w wr
  pc : Pc pb po xs wr

theorem pc_row {pb po : Nat} {xs : List UInt8} {w : World} (h : Pc pb po xs w) (h0 : 0 < xs.length) : ∃ o, w.heap[pb]? = some o := by
  have := h 0 xs[0] (List.getElem?_eq_getElem h0)
  unfold World.cell? at this
  split at this
  · rename_i e; exact ⟨_, e⟩
  · cases this

theorem write_call {B e g b pb po n4 : Nat} {l k bf xs : List UInt8} {w w1 : World} (hA : All B e g b pb po l bf xs w w1) (hR : NotRow b w1 pb) (heb : e ≠ b) (hgb : g ≠ b) (h0 : 0 < xs.length) (hO : Out e 7 k w1) (hk : k.length = n4) (hll : l.length + n4 ≤ 140737488355328) (hBw : B ≤ w1.heap.size) :
    ∀ W : World, Al w1 W → Calls Tryd.prog 27 #[.pointer (some ⟨b, 0, none⟩), .slice (some ⟨e, 7, none⟩) n4 1024] W fun r w' => r = .returned (.tuple #[.int .i64 n4, .nilIface]) ∧ All B e g b pb po (l ++ k) bf xs w w' := by
  intro W hW
  have hb := bd_heap hA.bd hW.1
  refine (Write_any B b l k ⟨e, 7, none⟩ n4 1024 W hb hk ?_ heb hll (by rw [hW.1]; exact hBw)).mono ?_
  · intro j u hj
    have hadd : (⟨e, 7, none⟩ : Addr).add j = ⟨e, 7 + j, none⟩ := by unfold Addr.add; split <;> simp_all
    rw [hadd, cell_heap hW.1]
    unfold Lib.byteCells at hj
    rw [List.getElem?_map] at hj
    cases hx : k[j]? with
    | none => rw [hx] at hj; cases hj
    | some x => rw [hx] at hj; obtain rfl := Option.some.inj hj; exact hO j x hx
  · rintro r w' ⟨rfl, h1, h2⟩
    refine ⟨rfl, (hA.ek.same (w' := W) (by rw [hW.1])).wr heb h2, enc_wr (w := W) (by unfold IsEnc; rw [hW.1]; exact hA.enc) hgb h2, h1, (hA.below.trans (hW.below B)).trans h2.below, ?_⟩
    obtain ⟨o, ho⟩ := pc_row hA.pc h0
    have hk2 := h2.exact_ pb o (by rw [hW.1]; exact ho) (by unfold NotRow; rw [hW.1]; exact hR)
    intro j x hx
    rw [show w'.cell? ⟨pb, po + j, none⟩ = w1.cell? ⟨pb, po + j, none⟩ from World.cell?_of_block (w := w1) (hk2.trans ho.symm)]
    exact hA.pc j x hx

theorem all_sc {B e g b pb po lo : Nat} {l bf bf' xs : List UInt8} {w w1 w2 : World} (hA : All B e g b pb po l bf xs w w1) (hs : Sc e lo w1 w2) (hE : Ek e g b bf' w2) (heb : e ≠ b) (hge : g ≠ e) (hpe : pb ≠ e) (hBe : B ≤ e) : All B e g b pb po l bf' xs w w2 :=
  ⟨hE, enc_sc hA.enc hge hs, bd_sc hA.bd heb hA.ek.shape hs, hA.below.trans (below_sc hBe hs), fun j x hx => (World.cell?_of_block (w := w1) (hs.block pb hpe)).trans (hA.pc j x hx)⟩

theorem ek_err {e g b : Nat} {bf : List UInt8} {w : World} (h : Ek e g b bf w) : Ek e g b bf (w.setCell ⟨e, 0, none⟩ .nilIface) := by
  have hs := Sc.set e 0 0 w .nilIface (by omega)
  have hc : ∀ p, 0 < p → (w.setCell ⟨e, 0, none⟩ .nilIface).cell? ⟨e, p, none⟩ = w.cell? ⟨e, p, none⟩ := fun p hp => by rw [setc, if_neg (by omega)]
  refine ⟨hs.shape.trans h.shape, fun p => (hs.frozen p).trans (h.nofz p), ?_, (hc 1 (by omega)).trans h.c1, (hc 2 (by omega)).trans h.c2, (hc 6 (by omega)).trans h.c6, fun p hp => hs.some_ p (h.some_ p hp), fun j x hx => (hc _ (by omega)).trans (h.buf j x hx)⟩
  rw [setc, if_pos rfl, h.c0]; rfl

theorem ew_of {B e g b pb po lo : Nat} {l bf xs : List UInt8} {w w1 w2 : World} (hA : All B e g b pb po l [] xs w w1) (hs : Sc e lo w1 w2) (hE : Ek e g b bf w2) (heb : e ≠ b) (hge : g ≠ e) (hpe : pb ≠ e) (hBe : B ≤ e) : Ew B e g b l bf w w2 :=
  have h := all_sc hA hs hE heb hge hpe hBe
  ⟨h.ek, h.enc, h.bd, h.below⟩

theorem fin0 {B e g b pb po : Nat} {l xs : List UInt8} {w w1 : World} (hA : All B e g b pb po l [] xs w w1) (heb : e ≠ b) (hge : g ≠ e) (hpe : pb ≠ e) (hBe : B ≤ e) : Ew B e g b l [] w (w1.setCell ⟨e, 6, none⟩ (.int .i64 0)) :=
  ew_of hA (Sc.set e 6 6 w1 (.int .i64 0) (by omega)) (ek_nb (bf' := []) hA.ek (fun j x hx => by simp at hx) (by simp)) heb hge hpe hBe

theorem fin1 {B e g b pb po : Nat} {l xs : List UInt8} {w w1 : World} (x0 : UInt8) (hA : All B e g b pb po l [] xs w w1) (heb : e ≠ b) (hge : g ≠ e) (hpe : pb ≠ e) (hBe : B ≤ e) : Ew B e g b l [x0] w ((w1.setCell ⟨e, 3, none⟩ (.int .u8 x0.toNat)).setCell ⟨e, 6, none⟩ (.int .i64 1)) := by
  have h1 : Ek e g b [] (w1.setCell ⟨e, 3, none⟩ (.int .u8 x0.toNat)) := ek_set hA.ek (by omega) (by omega) rfl (fun j x hx => by simp at hx)
  have s1 := Sc.set e 3 3 w1 (.int .u8 x0.toNat) (by omega)
  have s2 := Sc.set e 3 6 (w1.setCell ⟨e, 3, none⟩ (.int .u8 x0.toNat)) (.int .i64 1) (by omega)
  refine ew_of hA (s1.trans s2) (ek_nb (bf' := [x0]) h1 (fun j x hx => ?_) (by simp)) heb hge hpe hBe
  match j, hx with
  | 0, hx =>
    simp at hx; subst hx
    rw [setc, if_pos rfl]
    obtain ⟨z, hz⟩ := Option.isSome_iff_exists.1 (hA.ek.some_ 3 (by omega))
    rw [hz]; rfl

theorem fin2 {B e g b pb po : Nat} {l xs : List UInt8} {w w1 : World} (x0 x1 : UInt8) (hA : All B e g b pb po l [] xs w w1) (heb : e ≠ b) (hge : g ≠ e) (hpe : pb ≠ e) (hBe : B ≤ e) : Ew B e g b l [x0, x1] w (((w1.setCell ⟨e, 3, none⟩ (.int .u8 x0.toNat)).setCell ⟨e, 4, none⟩ (.int .u8 x1.toNat)).setCell ⟨e, 6, none⟩ (.int .i64 2)) := by
  have h1 : Ek e g b [] (w1.setCell ⟨e, 3, none⟩ (.int .u8 x0.toNat)) := ek_set hA.ek (by omega) (by omega) rfl (fun j x hx => by simp at hx)
  have h2 : Ek e g b [] ((w1.setCell ⟨e, 3, none⟩ (.int .u8 x0.toNat)).setCell ⟨e, 4, none⟩ (.int .u8 x1.toNat)) := ek_set h1 (by omega) (by omega) rfl (fun j x hx => by simp at hx)
  have s1 := Sc.set e 3 3 w1 (.int .u8 x0.toNat) (by omega)
  have s2 := Sc.set e 3 4 (w1.setCell ⟨e, 3, none⟩ (.int .u8 x0.toNat)) (.int .u8 x1.toNat) (by omega)
  have s3 := Sc.set e 3 6 ((w1.setCell ⟨e, 3, none⟩ (.int .u8 x0.toNat)).setCell ⟨e, 4, none⟩ (.int .u8 x1.toNat)) (.int .i64 2) (by omega)
  refine ew_of hA ((s1.trans s2).trans s3) (ek_nb (bf' := [x0, x1]) h2 (fun j x hx => ?_) (by simp)) heb hge hpe hBe
  match j, hx with
  | 0, hx =>
    simp at hx; subst hx
    rw [setc, if_neg (by omega), setc, if_pos rfl]
    obtain ⟨z, hz⟩ := Option.isSome_iff_exists.1 (hA.ek.some_ 3 (by omega))
    rw [hz]; rfl
  | 1, hx =>
    simp at hx; subst hx
    rw [setc, if_pos rfl, setc, if_neg (by omega)]
    obtain ⟨z, hz⟩ := Option.isSome_iff_exists.1 (hA.ek.some_ 4 (by omega))
    rw [hz]; rfl

/-- The state of the encoder's Write behind q bytes. -/
structure Wst (B e g b pb po : Nat) (l xs : List UInt8) (w : World) (q : Nat) (wr : World) : Prop where
  ek : Ek e g b [] wr
  enc : IsEnc g 64 wr
  bd : Bd B b (l ++ b64 (xs.take q)) wr
  below : Below B w wr
  pc : Pc pb po xs wr
  row : q = 0 → NotRow b wr pb

end Go.Proofs.YtedhgkddfgpfhaaDoor.Ew
