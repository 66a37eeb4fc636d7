/- FnRound, where what it reads is of bulk at most 1048576: the row's statement and its card. -/
import Derived.Test.YtbklpdcipfhdjaaGreatDoorRound
import Derived.Test.YtbklpdcipfhdjaaGreatDoorOr
import Derived.Test.YtbklpdcipfhdjaaGreatDoorEv
namespace Go.Proofs.YtbklpdcipfhdjaaGreatDoor.fnRound
open Go.ChangeShapes Go.WideShapes Go.ChangeAt Go.RowKit Go.Shelf Go.Lib Go.Proofs.YtbklpdcipfhdjaaGreatDoor.Wit Go.Proofs.YtbklpdcipfhdjaaGreatDoor.Ev Go.Proofs.YtbklpdcipfhdjaaGreatDoor.Opn Go.Proofs.YtbklpdcipfhdjaaGreatDoor.Or
open Go.ChangeMaps (open_string shut_string)

abbrev args0 : Array Value := #[.string ⟨#[]⟩, .slice none 0 0]

theorem reads (os : Os) {H : Type} (enc : TypeId × Value → H) : (DataW.whole enc Tryz.prog ((laidWorld os).forCall (fun _ _ => 0) ⟨#[], args0, []⟩).memory Tryz.f9.params.toList (Rows.OpenSpec.upto Rows.fnRoundSpec).vars false args0.toList 10).map (fun x => Rows.uptoSmall H (x.1 ++ x.2.1)) = some true := by kernel_rfl

theorem witness_row (os : Os) {H : Type} (enc : TypeId × Value → H) :
    (Rows.OpenSpec.upto Rows.fnRoundSpec).preRow enc Tryz.prog Tryz.f9 Rows.fnRoundUptoRow.domain false Rows.fnRoundUptoRow.laid ((laidWorld os).forCall (fun _ _ => 0) ⟨#[], args0, []⟩).memory args0 := by
  obtain ⟨x, hx, hs⟩ := Option.map_eq_some_iff.1 (reads os enc)
  exact OpenSpec.preRow_of_cond 10 hx rfl (fun k hk => by cases hk; exact hs) (by kernel_rfl) (laid_met os _)

set_option maxRecDepth 100000 in
set_option maxHeartbeats 2000000 in
theorem lifted (os : Os) (started : os.Started) (H : Type) (enc : TypeId × Value → H) (F : Stop.Interp) :
    ReturnsInHanded {} Tryz.checked os 9 .any ((Rows.OpenSpec.upto Rows.fnRoundSpec).preRow enc Tryz.prog Tryz.f9 Rows.fnRoundUptoRow.domain false Rows.fnRoundUptoRow.laid) (((Rows.OpenSpec.upto Rows.fnRoundSpec).at F).post enc Tryz.prog Tryz.f9 false true false false) := by
  refine returnsInHanded_of_row (C := Tryz.checked) (s := Rows.OpenSpec.upto Rows.fnRoundSpec) own started (by kernel_rfl) Tryz.func9
    (witness_row_atRef (enc := enc) (C := Tryz.checked) false (laidWorld os) args0 rfl (by kernel_rfl) (by kernel_rfl) (by kernel_rfl) (witness_row os enc)) ?_
  intro W base args ds gs before hval0 hW _ hcond _ hL _ _
  have hk : Rows.uptoSmall H (ds ++ gs) = true := hcond _ rfl
  have hbulk : Rows.uptoBulkAll (ds ++ gs) ≤ 1048576 := of_decide_eq_true hk
  have hval : ∀ (j : Nat) t v, Tryz.f9.params[j]? = some t → args[j]? = some v → Value.okWide Tryz.prog W .any base t v := hval0
  have hW' := hW
  have hWlt := hW.lt
  obtain ⟨p, q, hA0, hV0, rfl, _, _⟩ := hW
  have hA : DataW.TrodAll enc Tryz.prog W 0 (fun _ => true) true Tryz.f9.params.toList args.toList ds p := hA0
  have hV : DataW.TrodVars enc Tryz.prog W (fun _ => true) ["loop.example/pub-mediatypes/pub/gomime.ErrInvalidMediaParameter", "loop.example/pub-mediatypes/pub/gomime.errDuplicateParamName", "loop.example/pub-mediatypes/pub/gomime.errNoMediaType", "loop.example/pub-mediatypes/pub/gomime.errNoSlashAfterFirstToken", "loop.example/pub-mediatypes/pub/gomime.errNoTokenAfterSlash", "loop.example/pub-mediatypes/pub/gomime.errUnexpectedContentAfterMediaSubtype"] gs q := hV0
  rw [Tryz.params9] at hA hval
  obtain ⟨v0, vs0, d0, ds0, p0, q0, hargs, rfl, rfl, h0, r0⟩ := trodAll_cons hA
  obtain ⟨v1, vs1, d1, ds1, p1, q1, hargs1, rfl, rfl, h1, r1⟩ := trodAll_cons r0
  obtain ⟨rfl, rfl, rfl⟩ := trodAll_nil r1
  obtain rfl : args = #[v0, v1] := by cases args; simp_all
  obtain ⟨t, rfl, rfl, rfl, wt⟩ := open_string Tryz.underlying9 (hval 0 9 v0 rfl rfl) h0
  obtain ⟨ao, n, cap, rfl⟩ := okWide_slice Tryz.underlying28 (hval 1 28 v1 rfl rfl)
  have hg6 := trodVars_len hV
  match gs, hg6 with
  | [g1, g2, g3, g4, g5, g6], _ =>
    simp only [List.cons_append, List.nil_append, Rows.uptoBulkAll] at hbulk
    obtain ⟨l, rfl, hL1, hL2, hL3⟩ := open_pairs h1 (by omega)
    have hbt := bulk_str (H := H) t
    unfold P.bl at hbt
    obtain ⟨ea, eb, hE⟩ := env_of hL
    clear hA0 hval0
    refine (Round.round_any _ _ t ao cap l W hE (by omega) hL1 hL2 hL3).mono ?_
    rintro e W' ⟨rfl, bel⟩
    have hlt1 : ∀ x ∈ p1, x.block < W.heap.size := fun x hx => hWlt x (by simp [hx])
    exact ⟨_, rfl, _, _, _, [], _, q, hW', trodAll_mk1 (shut_bool Tryz.underlying4 _), trodAll_cons_mk (shut_string Tryz.underlying9 wt) (trodAll_mk1 (bel.trod laidOut (by kernel_rfl) (of_decide_eq_true (by kernel_rfl)) h1 hlt1)), bel.trodVars laidOut (by kernel_rfl) hV, bel.frame _, fun h => by cases h⟩

theorem said : Rows.FnRoundUptoSaid :=
  OpenClaim.holds_of_cond 9 Tryz.f9 rfl rfl rfl rfl rfl rfl rfl ⟨rfl, rfl, rfl, rfl, rfl⟩ rfl rfl rfl rfl rfl (by kernel_rfl) Tryz.func9 (by kernel_rfl)
    (of_decide_eq_true (by kernel_rfl)) (by unfold Func.isWrapper; first | (rw [if_pos (by decide +kernel)]; kernel_rfl) | (rw [if_neg (by decide +kernel)]; exact ⟨rfl, rfl⟩))
    (fun os started H enc _ F => by rw [OpenClaim.pre_eq_preRow]; exact lifted os started H enc F)

theorem plain (f : FuncId) (fn : Func) (hf : Tryz.pinned.checked.prog.funcNamed "loop.example/pub-mediatypes/laws.FnRound" = some f) (hfn : Tryz.pinned.checked.prog.funcs[f]? = some fn) :
    true = Tryz.pinned.checked.prog.looks [] ∧ ∀ (j : Nat) t, fn.params[j]? = some t → Tryz.pinned.checked.prog.wantsStandIn t = false := by
  obtain rfl : f = 9 := Option.some.inj ((show Tryz.prog.funcNamed "loop.example/pub-mediatypes/laws.FnRound" = some 9 by kernel_rfl).symm.trans hf) |>.symm
  obtain rfl : fn = Tryz.f9 := (Option.some.inj (Tryz.func9.symm.trans hfn)).symm
  refine ⟨by kernel_rfl, fun j t ht => ?_⟩
  rw [Tryz.params9] at ht
  have hm := Array.mem_of_getElem? ht
  simp at hm
  rcases hm with rfl | rfl
  · exact (show Tryz.prog.wantsStandIn 9 = false by kernel_rfl)
  · exact (show Tryz.prog.wantsStandIn 28 = false by kernel_rfl)

theorem card : Rows.FnRoundUptoCardSaid :=
  Claim7.holds_tied_plain_at .later [] _ _ _ _ said (fun _ h => by cases h) (by kernel_rfl) (fun _ h => by cases h) fnRoundUpto_row_tie rfl ⟨rfl, rfl⟩ (by kernel_rfl) rfl plain (by kernel_rfl)

end Go.Proofs.YtbklpdcipfhdjaaGreatDoor.fnRound
