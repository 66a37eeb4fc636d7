/- FnContinued: the row's statement and its card. -/
import Derived.Test.YtbklpdcipfhdjaaGreatDoorCont
import Derived.Test.YtbklpdcipfhdjaaGreatDoorOt
import Derived.Test.YtbklpdcipfhdjaaGreatDoorEv
namespace Go.Proofs.YtbklpdcipfhdjaaGreatDoor.fnContinued
open Go.ChangeShapes Go.WideShapes Go.ChangeAt Go.RowKit Go.Shelf Go.Lib Go.Proofs.YtbklpdcipfhdjaaGreatDoor.Wit Go.Proofs.YtbklpdcipfhdjaaGreatDoor.Ev Go.Proofs.YtbklpdcipfhdjaaGreatDoor.Ot
open Go.ChangeMaps (open_string shut_string)

abbrev args0 : Array Value := #[.string ⟨#[]⟩, .string ⟨#[]⟩, .slice none 0 0, .int .i64 0, .int .i64 0]

theorem witness_row (os : Os) {H : Type} (enc : TypeId × Value → H) :
    (OpenSpec.ofChange Rows.fnContinuedSpec).preRow enc Tryz.prog Tryz.f6 Rows.fnContinuedRow.domain false Rows.fnContinuedRow.laid ((laidWorld os).forCall (fun _ _ => 0) ⟨#[], args0, []⟩).memory args0 := by
  exact OpenSpec.preRow_of_B rfl 10 (by kernel_rfl) (by kernel_rfl) (laid_met os _)

set_option maxRecDepth 100000 in
set_option maxHeartbeats 2000000 in
theorem lifted (os : Os) (started : os.Started) (H : Type) (enc : TypeId × Value → H) (F : Stop.Interp) :
    ReturnsInHanded {} Tryz.checked os 6 .any ((OpenSpec.ofChange Rows.fnContinuedSpec).preRow enc Tryz.prog Tryz.f6 Rows.fnContinuedRow.domain false Rows.fnContinuedRow.laid) (((OpenSpec.ofChange Rows.fnContinuedSpec).at F).post enc Tryz.prog Tryz.f6 false true false false) := by
  refine returnsInHanded_of_row (C := Tryz.checked) (s := OpenSpec.ofChange Rows.fnContinuedSpec) own started (by kernel_rfl) Tryz.func6
    (witness_row_atRef (enc := enc) (C := Tryz.checked) false (laidWorld os) args0 rfl (by kernel_rfl) (by kernel_rfl) (by kernel_rfl) (witness_row os enc)) ?_
  intro W base args ds gs before hval0 hW _ _ _ hL _ _
  have hval : ∀ (j : Nat) t v, Tryz.f6.params[j]? = some t → args[j]? = some v → Value.okWide Tryz.prog W .any base t v := hval0
  have hW' := hW
  have hWlt := hW.lt
  obtain ⟨p, q, hA0, hV0, rfl, _, _⟩ := hW
  have hA : DataW.TrodAll enc Tryz.prog W 0 (fun _ => true) true Tryz.f6.params.toList args.toList ds p := hA0
  have hV : DataW.TrodVars enc Tryz.prog W (fun _ => true) ["loop.example/pub-mediatypes/pub/gomime.ErrInvalidMediaParameter", "loop.example/pub-mediatypes/pub/gomime.errDuplicateParamName", "loop.example/pub-mediatypes/pub/gomime.errNoMediaType", "loop.example/pub-mediatypes/pub/gomime.errNoSlashAfterFirstToken", "loop.example/pub-mediatypes/pub/gomime.errNoTokenAfterSlash", "loop.example/pub-mediatypes/pub/gomime.errUnexpectedContentAfterMediaSubtype"] gs q := hV0
  rw [Tryz.params6] at hA hval
  obtain ⟨v0, vs0, d0, ds0, p0, q0, hargs, rfl, rfl, h0, r0⟩ := trodAll_cons hA
  obtain ⟨v1, vs1, d1, ds1, p1, q1, hargs1, rfl, rfl, h1, r1⟩ := trodAll_cons r0
  obtain ⟨v2, vs2, d2, ds2, p2, q2, hargs2, rfl, rfl, h2, r2⟩ := trodAll_cons r1
  obtain ⟨v3, vs3, d3, ds3, p3, q3, hargs3, rfl, rfl, h3, r3⟩ := trodAll_cons r2
  obtain ⟨v4, vs4, d4, ds4, p4, q4, hargs4, rfl, rfl, h4, r4⟩ := trodAll_cons r3
  obtain ⟨rfl, rfl, rfl⟩ := trodAll_nil r4
  obtain rfl : args = #[v0, v1, v2, v3, v4] := by cases args; simp_all
  obtain ⟨t, rfl, rfl, rfl, wt⟩ := open_string Tryz.underlying9 (hval 0 9 v0 rfl rfl) h0
  obtain ⟨name, rfl, rfl, rfl, wn⟩ := open_string Tryz.underlying9 (hval 1 9 v1 rfl rfl) h1
  obtain ⟨ao, n, cap, rfl⟩ := okWide_slice Tryz.underlying34 (hval 2 34 v2 rfl rfl)
  obtain ⟨n3, rfl, rfl, rfl, w3⟩ := open_int Tryz.underlying3 (hval 3 3 v3 rfl rfl) h3
  obtain ⟨n4, rfl, rfl, rfl, w4⟩ := open_int Tryz.underlying3 (hval 4 3 v4 rfl rfl) h4
  have hg6 := trodVars_len hV
  match gs, hg6 with
  | [g1, g2, g3, g4, g5, g6], _ =>
    obtain ⟨l, rfl, hL1⟩ := open_texts h2
    obtain ⟨ea, eb, hE⟩ := env_of hL
    clear hA0 hval0
    refine (Cont.cont_any _ _ t name ao cap l n3 n4 W hE hL1).mono ?_
    rintro e W' ⟨rfl, bel⟩
    have hlt2 : ∀ x ∈ p2, x.block < W.heap.size := fun x hx => hWlt x (by simp [hx])
    exact ⟨_, rfl, _, _, _, [], _, q, hW', trodAll_mk1 (shut_bool Tryz.underlying4 _), trodAll_cons_mk (shut_string Tryz.underlying9 wt) (trodAll_cons_mk (shut_string Tryz.underlying9 wn) (trodAll_cons_mk (bel.trod laidOut (by kernel_rfl) (of_decide_eq_true (by kernel_rfl)) h2 hlt2) (trodAll_cons_mk (shut_int Tryz.underlying3 w3) (trodAll_mk1 (shut_int Tryz.underlying3 w4))))), bel.trodVars laidOut (by kernel_rfl) hV, bel.frame _, fun h => by cases h⟩

theorem said : Rows.FnContinuedSaid :=
  OpenClaim.holds_of_cond 6 Tryz.f6 rfl rfl rfl rfl rfl rfl rfl ⟨rfl, rfl, rfl, rfl, rfl⟩ rfl rfl rfl rfl rfl (by kernel_rfl) Tryz.func6 (by kernel_rfl)
    (of_decide_eq_true (by kernel_rfl)) (by unfold Func.isWrapper; first | (rw [if_pos (by decide +kernel)]; kernel_rfl) | (rw [if_neg (by decide +kernel)]; exact ⟨rfl, rfl⟩))
    (fun os started H enc _ F => by rw [OpenClaim.pre_eq_preRow]; exact lifted os started H enc F)

theorem plain (f : FuncId) (fn : Func) (hf : Tryz.pinned.checked.prog.funcNamed "loop.example/pub-mediatypes/laws.FnContinued" = some f) (hfn : Tryz.pinned.checked.prog.funcs[f]? = some fn) :
    true = Tryz.pinned.checked.prog.looks [] ∧ ∀ (j : Nat) t, fn.params[j]? = some t → Tryz.pinned.checked.prog.wantsStandIn t = false := by
  obtain rfl : f = 6 := Option.some.inj ((show Tryz.prog.funcNamed "loop.example/pub-mediatypes/laws.FnContinued" = some 6 by kernel_rfl).symm.trans hf) |>.symm
  obtain rfl : fn = Tryz.f6 := (Option.some.inj (Tryz.func6.symm.trans hfn)).symm
  refine ⟨by kernel_rfl, fun j t ht => ?_⟩
  rw [Tryz.params6] at ht
  have hm := Array.mem_of_getElem? ht
  simp at hm
  rcases hm with rfl | rfl | rfl
  · exact (show Tryz.prog.wantsStandIn 9 = false by kernel_rfl)
  · exact (show Tryz.prog.wantsStandIn 34 = false by kernel_rfl)
  · exact (show Tryz.prog.wantsStandIn 3 = false by kernel_rfl)

theorem card : Rows.FnContinuedCardSaid :=
  Claim7.holds_tied_plain_at .later [] _ _ _ _ said (fun _ h => by cases h) (by kernel_rfl) (fun _ h => by cases h) fnContinued_row_tie rfl ⟨rfl, rfl⟩ (by kernel_rfl) rfl plain (by kernel_rfl)

end Go.Proofs.YtbklpdcipfhdjaaGreatDoor.fnContinued
