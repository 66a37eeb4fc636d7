/- FnBack: the world of the witness, the row's statement and its card. -/
import Derived.Test.YtedhgkddfgpfhaaDoorDj
import Derived.Test.YtedhgkddfgpfhaaDoorCards
import Derived.Test.YtedhgkddfgpfhaaDoorTie
import Derived.ProofKit
import Derived.OpenShut
import Derived.SizedLaws
import Derived.Deep.DeepHandedRow
import Derived.Deep.DeepWitnessRowRef
import Derived.Lib.LaidIn
import Derived.Lib.LaidU8
import Derived.Lib.LaidCaseMet
import Derived.PinnedBridge
import Derived.OpenVars
import Derived.Stop.Joined
namespace Go.Proofs.YtedhgkddfgpfhaaDoor.fnBack
open Go.ChangeShapes Go.WideShapes Go.ChangeAt Go.RowKit Go.Shelf Go.Lib
open Go.ChangeMaps (open_string shut_string)

theorem own : ownKnob Tryd.prog.godebug = none := by kernel_rfl
theorem laidOut : laidOutB Tryd.prog = true := by kernel_rfl

/-- Plain data as cells. -/
def lit1 : DataW Unit → List Value
  | .lit (.int k z) => [.int k z]
  | _ => []
def lit2 : DataW Unit → List Value
  | .agg ps => ps.flatMap lit1
  | d => lit1 d
def lit3 : DataW Unit → List Value
  | .agg ps => ps.flatMap lit2
  | .slice ps _ => ps.flatMap lit2
  | d => lit2 d

noncomputable abbrev N0 : Nat := (World.settled Tryd.prog default).heap.size
abbrev s7 : ByteArray := ⟨#[115, 104, 111, 114, 116, 32, 119, 114, 105, 116, 101]⟩
abbrev s6 : ByteArray := ⟨#[105, 110, 118, 97, 108, 105, 100, 32, 119, 114, 105, 116, 101, 32, 114, 101, 115, 117, 108, 116]⟩
abbrev s8 : ByteArray := ⟨#[69, 79, 70]⟩
abbrev s2 : ByteArray := ⟨#[109, 105, 109, 101, 58, 32, 105, 110, 118, 97, 108, 105, 100, 32, 82, 70, 67, 32, 50, 48, 52, 55, 32, 101, 110, 99, 111, 100, 101, 100, 45, 119, 111, 114, 100]⟩

/-- The witness: the settled world, the variables holding what their initialisers lay. -/
noncomputable def laidWorld (os : Os) : World :=
  let N := (World.settled Tryd.prog os).heap.size
  let w0 := World.holding Tryd.prog os ⟨#[.cells #[.string s7] 90, .cells #[.string s6] 90, .cells #[.string s8] 90, .cells #[.string s2] 90, .cells (lit3 Rows.laid_unicode_caseOrbit).toArray 119, .cells Lib.caseCells5 150], #[], []⟩
  let put (h : Array Obj) (g : Nat) (cs : Array Value) : Array Obj := h.modify g fun
    | .cells _ t frozen => .cells cs t frozen
    | o => o
  let h0 := put w0.heap 0 (Lib.firstTab.map fun z => Value.int .u8 z).toArray
  let h1 := put h0 1 (lit3 Rows.laid_unicode_utf8_acceptRanges).toArray
  let h2 := put h1 2 #[.iface 88 (.pointer (some ⟨N + 3, 0, none⟩))]
  let h3 := put h2 3 (lit3 Rows.laid_unicode_asciiFold).toArray
  let h4 := put h3 4 #[.slice (some ⟨N + 4, 0, none⟩) ((lit3 Rows.laid_unicode_caseOrbit).length / 2) ((lit3 Rows.laid_unicode_caseOrbit).length / 2)]
  let h5 := put h4 5 #[.slice (some ⟨N + 5, 0, none⟩) 336 336]
  let h6 := put h5 6 #[.iface 88 (.pointer (some ⟨N + 1, 0, none⟩))]
  let h7 := put h6 7 #[.iface 88 (.pointer (some ⟨N, 0, none⟩))]
  let h8 := put h7 8 #[.iface 88 (.pointer (some ⟨N + 2, 0, none⟩))]
  { w0 with heap := h8 }

set_option maxRecDepth 1000000 in
theorem case_in {w : World} (R : Nat) (t : TypeId) (hgR : 5 ≠ R) (hvar : w.heap[5]? = some (.cells #[.slice (some ⟨R, 0, none⟩) caseA.size caseA.size] (Tryd.lays164_ren.t 162) (0, 0)))
    (hblk : w.heap[R]? = some (.cells caseCells5 t (0, 0))) : LaidIn Tryd.prog w [("unicode.CaseRanges", caseData)] [5, R] := by
  have L : Lays.n274 Tryd.prog Tryd.lays164_ren := { Tryd.lays164 with }
  have X : CaseExtra Tryd.prog Tryd.lays164_ren := ⟨by kernel_rfl, by kernel_rfl, by kernel_rfl, by kernel_rfl, by kernel_rfl, by kernel_rfl⟩
  have hT := caseTab_of_block hblk
  have hread := case_slice_reads L Tryd.lays164.t206 X hT caseA_wf (by rw [caseA_size]; unfold maxLen; omega) 0
  rw [case_rows_data] at hread
  have n5 : Tryd.prog.globalNamed "unicode.CaseRanges" = some 5 := by kernel_rfl
  have hv : w.var? Tryd.prog "unicode.CaseRanges" = some #[.slice (some ⟨R, 0, none⟩) caseA.size caseA.size] := by simp [World.var?, n5, hvar]
  refine LaidIn.one (g := 5) (t := Tryd.lays164_ren.t 162) [5, R] n5 (by kernel_rfl) hv hread ?_ ?_ ?_
  · refine List.nodup_append.2 ⟨row_nodup _ _, row_nodup _ _, ?_⟩
    intro a ha b hb e
    obtain ⟨i, _, rfl⟩ := MemPlace.mem_row.1 ha
    obtain ⟨j, _, rfl⟩ := MemPlace.mem_row.1 hb
    simp at e
    exact hgR e.1
  · intro b off hp
    rcases List.mem_append.1 hp with hp | hp
    · obtain ⟨i, hi, e⟩ := MemPlace.mem_row.1 hp
      cases e
      refine ⟨⟨_, _, hvar⟩, fun u v hc => ?_⟩
      obtain rfl : i = 0 := Nat.lt_one_iff.1 hi
      rw [Lib.cell_of_heap hvar] at hc
      simp at hc
    · obtain ⟨i, hi, e⟩ := MemPlace.mem_row.1 hp
      cases e
      refine ⟨⟨_, _, hblk⟩, fun u v hc => ?_⟩
      obtain ⟨c0, c1, c2, c3, c4⟩ := hT (i / 5) (Nat.div_lt_of_lt_mul (by rw [Nat.mul_comm]; exact hi))
      have hi5 : 0 + i = 0 + i / 5 * 5 + i % 5 := by omega
      simp only at hc
      rw [hi5] at hc
      have hm : i % 5 < 5 := Nat.mod_lt _ (by omega)
      match hk : i % 5, hm with
      | 0, _ => rw [hk, Nat.add_zero, c0] at hc; cases hc
      | 1, _ => rw [hk, c1] at hc; cases hc
      | 2, _ => rw [hk, c2] at hc; cases hc
      | 3, _ => rw [hk, c3] at hc; cases hc
      | 4, _ => rw [hk, c4] at hc; cases hc
  · intro x hx
    rcases List.mem_append.1 hx with hx | hx
    · obtain ⟨i, _, rfl⟩ := MemPlace.mem_row.1 hx
      exact List.mem_cons_self
    · obtain ⟨i, _, rfl⟩ := MemPlace.mem_row.1 hx
      exact List.mem_cons_of_mem _ List.mem_cons_self

theorem piece0 (os : Os) (args : Array Value) : LaidIn Tryd.prog ((laidWorld os).forCall (fun _ _ => 0) ⟨#[], args, []⟩).memory [("unicode/utf8.acceptRanges", Rows.laid_unicode_utf8_acceptRanges), ("io.ErrShortWrite", Rows.laid_io_ErrShortWrite), ("io.errInvalidWrite", Rows.laid_io_errInvalidWrite), ("io.EOF", Rows.laid_io_EOF), ("unicode.asciiFold", Rows.laid_unicode_asciiFold), ("unicode.caseOrbit", Rows.laid_unicode_caseOrbit), ("loop.example/pub-mediatypes/pub/gomime.errInvalidWord", Rows.laid_loop_example_pub_mediatypes_pub_gomime_errInvalidWord)] [1, 7, N0, 6, N0 + 1, 8, N0 + 2, 3, 4, N0 + 4, 2, N0 + 3] :=
  LaidIn.of_run _ 10 (by kernel_rfl) (by kernel_rfl) (by kernel_rfl) (by kernel_rfl)
theorem piece1 (os : Os) (args : Array Value) : LaidIn Tryd.prog ((laidWorld os).forCall (fun _ _ => 0) ⟨#[], args, []⟩).memory [("unicode.CaseRanges", caseData)] [5, N0 + 5] :=
  case_in (N0 + 5) 150 (of_decide_eq_true (by kernel_rfl)) (by kernel_rfl) (by kernel_rfl)
theorem piece2 (os : Os) (args : Array Value) : LaidIn Tryd.prog ((laidWorld os).forCall (fun _ _ => 0) ⟨#[], args, []⟩).memory [("unicode/utf8.first", firstData)] [0] :=
  LaidIn.of_run _ 10 (by kernel_rfl) (by kernel_rfl) (by kernel_rfl) (by kernel_rfl)

theorem laid_met (os : Os) (args : Array Value) : laidMet Tryd.prog Rows.fnBackRow.laid ((laidWorld os).forCall (fun _ _ => 0) ⟨#[], args, []⟩).memory := by
  have h := (((piece0 os args).append (piece1 os args) (by kernel_rfl)).append (piece2 os args) (by kernel_rfl)).met
  rw [← Pinned.caseRanges_eq, ← Pinned.utf8First_eq] at h
  exact h

theorem witness_row (os : Os) {H : Type} (enc : TypeId × Value → H) :
    (OpenSpec.ofChange Rows.fnBackSpec).preRow enc Tryd.prog Tryd.f3 Rows.fnBackRow.domain false Rows.fnBackRow.laid ((laidWorld os).forCall (fun _ _ => 0) ⟨#[], #[.bool false, .string ⟨#[]⟩], []⟩).memory #[.bool false, .string ⟨#[]⟩] := by
  exact OpenSpec.preRow_of_B rfl 10 (by kernel_rfl) (by kernel_rfl) (laid_met os _)

set_option maxRecDepth 100000 in
set_option maxHeartbeats 2000000 in
theorem lifted (os : Os) (started : os.Started) (H : Type) (enc : TypeId × Value → H) (F : Stop.Interp) :
    ReturnsInHanded {} Tryd.checked os 3 .any ((OpenSpec.ofChange Rows.fnBackSpec).preRow enc Tryd.prog Tryd.f3 Rows.fnBackRow.domain false Rows.fnBackRow.laid) (((OpenSpec.ofChange Rows.fnBackSpec).at F).post enc Tryd.prog Tryd.f3 false true false false) := by
  refine returnsInHanded_of_row (C := Tryd.checked) (s := OpenSpec.ofChange Rows.fnBackSpec) own started (by kernel_rfl) Tryd.func3
    (witness_row_atRef (enc := enc) (C := Tryd.checked) false (laidWorld os) #[.bool false, .string ⟨#[]⟩] rfl (by kernel_rfl) (by kernel_rfl) (by kernel_rfl) (witness_row os enc)) ?_
  intro W base args ds gs before hval0 hW _ _ _ hL _ _
  have hval : ∀ (j : Nat) t v, Tryd.f3.params[j]? = some t → args[j]? = some v → Value.okWide Tryd.prog W .any base t v := hval0
  have hW' := hW
  obtain ⟨p, q, hA0, hV0, rfl, _, _⟩ := hW
  have hA : DataW.TrodAll enc Tryd.prog W 0 (fun _ => true) true Tryd.f3.params.toList args.toList ds p := hA0
  have hV : DataW.TrodVars enc Tryd.prog W (fun _ => true) ["loop.example/pub-mediatypes/pub/gomime.errInvalidWord"] gs q := hV0
  rw [Tryd.params3] at hA hval
  obtain ⟨v0, vs0, d0, ds0, p0, q0, hargs, rfl, rfl, h0, r0⟩ := trodAll_cons hA
  obtain ⟨v1, vs1, d1, ds1, p1, q1, hargs1, rfl, rfl, h1, r1⟩ := trodAll_cons r0
  obtain ⟨rfl, rfl, rfl⟩ := trodAll_nil r1
  obtain rfl : args = #[v0, v1] := by cases args; simp_all
  obtain ⟨b, rfl, rfl, rfl⟩ := open_bool Tryd.underlying4 (hval 0 4 v0 rfl rfl) h0
  obtain ⟨s, rfl, rfl, rfl, ws⟩ := open_string Tryd.underlying9 (hval 1 9 v1 rfl rfl) h1
  obtain ⟨_, _, _, _, g1, _, hg1, _⟩ := trodVars_one hV
  subst hg1
  clear hA0 hval0
  have hT : Lib.Utf8Tabs 0 1 W :=
    utf8Tabs_of_reads (ρ := Tryd.lays164_ren) { Tryd.lays164 with } ⟨by kernel_rfl, by kernel_rfl, by kernel_rfl, by kernel_rfl, by kernel_rfl, by kernel_rfl, by kernel_rfl⟩
      (by rw [← Pinned.utf8First_eq]; exact Lib.laidMet.reads hL (.tail _ (.tail _ (.tail _ (.tail _ (.tail _ (.tail _ (.tail _ (.tail _ (.head _))))))))))
      (Lib.laidMet.reads hL (.head _))
  refine (Dj.fnBack_any b s W hT).mono ?_
  rintro e W' ⟨rfl, bel⟩
  exact ⟨_, rfl, _, _, _, [], [], q, hW', trodAll_mk1 (shut_bool Tryd.underlying4 _), trodAll_cons_mk (shut_bool Tryd.underlying4 _) (trodAll_mk1 (shut_string Tryd.underlying9 ws)), bel.trodVars laidOut (by kernel_rfl) hV, bel.frame _, fun h => by cases h⟩

theorem said : Rows.FnBackSaid :=
  OpenClaim.holds_of_cond 3 Tryd.f3 rfl rfl rfl rfl rfl rfl rfl ⟨rfl, rfl, rfl, rfl, rfl⟩ rfl rfl rfl rfl rfl (by kernel_rfl) Tryd.func3 (by kernel_rfl)
    (of_decide_eq_true (by kernel_rfl)) (by unfold Func.isWrapper; first | (rw [if_pos (by decide +kernel)]; kernel_rfl) | (rw [if_neg (by decide +kernel)]; exact ⟨rfl, rfl⟩))
    (fun os started H enc _ F => by rw [OpenClaim.pre_eq_preRow]; exact lifted os started H enc F)

theorem plain (f : FuncId) (fn : Func) (hf : Tryd.pinned.checked.prog.funcNamed "loop.example/pub-mediatypes/laws.FnBack" = some f) (hfn : Tryd.pinned.checked.prog.funcs[f]? = some fn) :
    true = Tryd.pinned.checked.prog.looks [] ∧ ∀ (j : Nat) t, fn.params[j]? = some t → Tryd.pinned.checked.prog.wantsStandIn t = false := by
  obtain rfl : f = 3 := Option.some.inj ((show Tryd.prog.funcNamed "loop.example/pub-mediatypes/laws.FnBack" = some 3 by kernel_rfl).symm.trans hf) |>.symm
  obtain rfl : fn = Tryd.f3 := (Option.some.inj (Tryd.func3.symm.trans hfn)).symm
  refine ⟨by kernel_rfl, fun j t ht => ?_⟩
  rw [Tryd.params3] at ht
  have hm := Array.mem_of_getElem? ht
  simp at hm
  rcases hm with rfl | rfl
  · exact (show Tryd.prog.wantsStandIn 4 = false by kernel_rfl)
  · exact (show Tryd.prog.wantsStandIn 9 = false by kernel_rfl)

theorem card : Rows.FnBackCardSaid :=
  Claim7.holds_tied_plain_at .later [] _ _ _ _ said (fun _ h => by cases h) (by kernel_rfl) (fun _ h => by cases h) fnBack_row_tie rfl ⟨rfl, rfl⟩ (by kernel_rfl) rfl plain (by kernel_rfl)


end Go.Proofs.YtedhgkddfgpfhaaDoor.fnBack
