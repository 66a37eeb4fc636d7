/- The world of the witness for the rows of this seat: the variables hold what their initialisers lay. -/
import Derived.Test.YtbklpdcipfhdjaaGreatDoorShelf
import Derived.Test.YtbklpdcipfhdjaaGreatDoorCards
import Derived.Test.YtbklpdcipfhdjaaGreatDoorTie
import Derived.ProofKit
import Derived.OpenShut
import Derived.SizedLaws
import Derived.Deep.DeepHandedRow
import Derived.Deep.DeepWitnessRowRef
import Derived.Lib.LaidIn
import Derived.Lib.LaidU8
import Derived.Lib.LaidCaseMet
import Derived.PinnedBridge
import Derived.OpenVars
import Derived.Stop.Joined
namespace Go.Proofs.YtbklpdcipfhdjaaGreatDoor.Wit
open Go.ChangeShapes Go.WideShapes Go.ChangeAt Go.RowKit Go.Shelf Go.Lib

theorem own : ownKnob Tryz.prog.godebug = none := by kernel_rfl
theorem laidOut : laidOutB Tryz.prog = true := by kernel_rfl

/-- Plain data as cells. -/
def lit1 : DataW Unit → List Value
  | .lit (.int k z) => [.int k z]
  | _ => []
def lit2 : DataW Unit → List Value
  | .agg ps => ps.flatMap lit1
  | d => lit1 d
def lit3 : DataW Unit → List Value
  | .agg ps => ps.flatMap lit2
  | .slice ps _ => ps.flatMap lit2
  | d => lit2 d

noncomputable abbrev N0 : Nat := (World.settled Tryz.prog default).heap.size
abbrev e0 : ByteArray := ⟨#[109, 105, 109, 101, 58, 32, 105, 110, 118, 97, 108, 105, 100, 32, 109, 101, 100, 105, 97, 32, 112, 97, 114, 97, 109, 101, 116, 101, 114]⟩
abbrev e1 : ByteArray := ⟨#[109, 105, 109, 101, 58, 32, 100, 117, 112, 108, 105, 99, 97, 116, 101, 32, 112, 97, 114, 97, 109, 101, 116, 101, 114, 32, 110, 97, 109, 101]⟩
abbrev e2 : ByteArray := ⟨#[109, 105, 109, 101, 58, 32, 110, 111, 32, 109, 101, 100, 105, 97, 32, 116, 121, 112, 101]⟩
abbrev e3 : ByteArray := ⟨#[109, 105, 109, 101, 58, 32, 101, 120, 112, 101, 99, 116, 101, 100, 32, 115, 108, 97, 115, 104, 32, 97, 102, 116, 101, 114, 32, 102, 105, 114, 115, 116, 32, 116, 111, 107, 101, 110]⟩
abbrev e4 : ByteArray := ⟨#[109, 105, 109, 101, 58, 32, 101, 120, 112, 101, 99, 116, 101, 100, 32, 116, 111, 107, 101, 110, 32, 97, 102, 116, 101, 114, 32, 115, 108, 97, 115, 104]⟩
abbrev e5 : ByteArray := ⟨#[109, 105, 109, 101, 58, 32, 117, 110, 101, 120, 112, 101, 99, 116, 101, 100, 32, 99, 111, 110, 116, 101, 110, 116, 32, 97, 102, 116, 101, 114, 32, 109, 101, 100, 105, 97, 32, 115, 117, 98, 116, 121, 112, 101]⟩
abbrev ws : List Int := [9, 13, 1, 32, 133, 101, 160, 5760, 5600, 8192, 8202, 1, 8232, 8233, 1, 8239, 8287, 48, 12288, 12288, 1]

/-- The witness: the settled world, the variables holding what their initialisers lay. -/
noncomputable def laidWorld (os : Os) : World :=
  let N := (World.settled Tryz.prog os).heap.size
  let w0 := World.holding Tryz.prog os ⟨#[.cells #[.string e0] 202, .cells #[.string e1] 202, .cells #[.string e2] 202, .cells #[.string e3] 202, .cells #[.string e4] 202, .cells #[.string e5] 202, .cells (ws.map fun z => Value.int .u16 z).toArray 131, .cells #[.slice (some ⟨N + 6, 0, none⟩) 7 7, .slice none 0 0, .int .i64 2] 128, .cells Lib.caseCells5 184], #[], []⟩
  let put (h : Array Obj) (g : Nat) (cs : Array Value) : Array Obj := h.modify g fun
    | .cells _ t frozen => .cells cs t frozen
    | o => o
  let h0 := put w0.heap 0 #[.iface 188 (.pointer (some ⟨N, 0, none⟩))]
  let h1 := put h0 1 #[.iface 188 (.pointer (some ⟨N + 1, 0, none⟩))]
  let h2 := put h1 2 (lit3 Rows.laid_strings_asciiSpace).toArray
  let h3 := put h2 3 #[.iface 188 (.pointer (some ⟨N + 2, 0, none⟩))]
  let h4 := put h3 4 #[.iface 188 (.pointer (some ⟨N + 3, 0, none⟩))]
  let h5 := put h4 5 #[.iface 188 (.pointer (some ⟨N + 4, 0, none⟩))]
  let h6 := put h5 6 #[.iface 188 (.pointer (some ⟨N + 5, 0, none⟩))]
  let h7 := put h6 7 #[.pointer (some ⟨N + 7, 0, none⟩)]
  let h8 := put h7 8 #[.slice (some ⟨N + 8, 0, none⟩) 336 336]
  let h9 := put h8 9 (Lib.firstTab.map fun z => Value.int .u8 z).toArray
  let h10 := put h9 10 (lit3 Rows.laid_unicode_utf8_acceptRanges).toArray
  let h11 := put h10 12 (lit3 Rows.laid_internal_strconv_uint64pow10).toArray
  let h12 := put h11 13 (lit3 Rows.laid_math_bits_deBruijn32tab).toArray
  let h13 := put h12 14 (lit3 Rows.laid_math_bits_deBruijn64tab).toArray
  { w0 with heap := h13 }

set_option maxRecDepth 1000000 in
theorem case_in {w : World} (R : Nat) (t : TypeId) (hgR : 8 ≠ R) (hvar : w.heap[8]? = some (.cells #[.slice (some ⟨R, 0, none⟩) caseA.size caseA.size] (Tryz.lays159_ren.t 162) (0, 0)))
    (hblk : w.heap[R]? = some (.cells caseCells5 t (0, 0))) : LaidIn Tryz.prog w [("unicode.CaseRanges", caseData)] [8, R] := by
  have L : Lays.n274 Tryz.prog Tryz.lays159_ren := { Tryz.lays159 with }
  have X : CaseExtra Tryz.prog Tryz.lays159_ren := ⟨by kernel_rfl, by kernel_rfl, by kernel_rfl, by kernel_rfl, by kernel_rfl, by kernel_rfl⟩
  have hT := caseTab_of_block hblk
  have hread := case_slice_reads L Tryz.lays159.t206 X hT caseA_wf (by rw [caseA_size]; unfold maxLen; omega) 0
  rw [case_rows_data] at hread
  have n8 : Tryz.prog.globalNamed "unicode.CaseRanges" = some 8 := by kernel_rfl
  have hv : w.var? Tryz.prog "unicode.CaseRanges" = some #[.slice (some ⟨R, 0, none⟩) caseA.size caseA.size] := by simp [World.var?, n8, hvar]
  refine LaidIn.one (g := 8) (t := Tryz.lays159_ren.t 162) [8, R] n8 (by kernel_rfl) hv hread ?_ ?_ ?_
  · refine List.nodup_append.2 ⟨row_nodup _ _, row_nodup _ _, ?_⟩
    intro a ha b hb e
    obtain ⟨i, _, rfl⟩ := MemPlace.mem_row.1 ha
    obtain ⟨j, _, rfl⟩ := MemPlace.mem_row.1 hb
    simp at e
    exact hgR e.1
  · intro b off hp
    rcases List.mem_append.1 hp with hp | hp
    · obtain ⟨i, hi, e⟩ := MemPlace.mem_row.1 hp
      cases e
      refine ⟨⟨_, _, hvar⟩, fun u v hc => ?_⟩
      obtain rfl : i = 0 := Nat.lt_one_iff.1 hi
      rw [Lib.cell_of_heap hvar] at hc
      simp at hc
    · obtain ⟨i, hi, e⟩ := MemPlace.mem_row.1 hp
      cases e
      refine ⟨⟨_, _, hblk⟩, fun u v hc => ?_⟩
      obtain ⟨c0, c1, c2, c3, c4⟩ := hT (i / 5) (Nat.div_lt_of_lt_mul (by rw [Nat.mul_comm]; exact hi))
      have hi5 : 0 + i = 0 + i / 5 * 5 + i % 5 := by omega
      simp only at hc
      rw [hi5] at hc
      have hm : i % 5 < 5 := Nat.mod_lt _ (by omega)
      match hk : i % 5, hm with
      | 0, _ => rw [hk, Nat.add_zero, c0] at hc; cases hc
      | 1, _ => rw [hk, c1] at hc; cases hc
      | 2, _ => rw [hk, c2] at hc; cases hc
      | 3, _ => rw [hk, c3] at hc; cases hc
      | 4, _ => rw [hk, c4] at hc; cases hc
  · intro x hx
    rcases List.mem_append.1 hx with hx | hx
    · obtain ⟨i, _, rfl⟩ := MemPlace.mem_row.1 hx
      exact List.mem_cons_self
    · obtain ⟨i, _, rfl⟩ := MemPlace.mem_row.1 hx
      exact List.mem_cons_of_mem _ List.mem_cons_self

theorem piece0 (os : Os) (args : Array Value) : LaidIn Tryz.prog ((laidWorld os).forCall (fun _ _ => 0) ⟨#[], args, []⟩).memory [("math/bits.deBruijn32tab", Rows.laid_math_bits_deBruijn32tab), ("math/bits.deBruijn64tab", Rows.laid_math_bits_deBruijn64tab), ("internal/strconv.uint64pow10", Rows.laid_internal_strconv_uint64pow10), ("unicode/utf8.acceptRanges", Rows.laid_unicode_utf8_acceptRanges), ("unicode.White_Space", Rows.laid_unicode_White_Space), ("strings.asciiSpace", Rows.laid_strings_asciiSpace), ("loop.example/pub-mediatypes/pub/gomime.errNoMediaType", Rows.laid_loop_example_pub_mediatypes_pub_gomime_errNoMediaType), ("loop.example/pub-mediatypes/pub/gomime.errNoSlashAfterFirstToken", Rows.laid_loop_example_pub_mediatypes_pub_gomime_errNoSlashAfterFirstToken), ("loop.example/pub-mediatypes/pub/gomime.errNoTokenAfterSlash", Rows.laid_loop_example_pub_mediatypes_pub_gomime_errNoTokenAfterSlash), ("loop.example/pub-mediatypes/pub/gomime.errUnexpectedContentAfterMediaSubtype", Rows.laid_loop_example_pub_mediatypes_pub_gomime_errUnexpectedContentAfterMediaSubtype), ("loop.example/pub-mediatypes/pub/gomime.ErrInvalidMediaParameter", Rows.laid_loop_example_pub_mediatypes_pub_gomime_ErrInvalidMediaParameter), ("loop.example/pub-mediatypes/pub/gomime.errDuplicateParamName", Rows.laid_loop_example_pub_mediatypes_pub_gomime_errDuplicateParamName)] [13, 14, 12, 10, 7, N0 + 7, N0 + 6, 2, 3, N0 + 2, 4, N0 + 3, 5, N0 + 4, 6, N0 + 5, 0, N0, 1, N0 + 1] :=
  LaidIn.of_run _ 10 (by kernel_rfl) (by kernel_rfl) (by kernel_rfl) (by kernel_rfl)
theorem piece1 (os : Os) (args : Array Value) : LaidIn Tryz.prog ((laidWorld os).forCall (fun _ _ => 0) ⟨#[], args, []⟩).memory [("unicode.CaseRanges", caseData)] [8, N0 + 8] :=
  case_in (N0 + 8) 184 (of_decide_eq_true (by kernel_rfl)) (by kernel_rfl) (by kernel_rfl)
theorem piece2 (os : Os) (args : Array Value) : LaidIn Tryz.prog ((laidWorld os).forCall (fun _ _ => 0) ⟨#[], args, []⟩).memory [("unicode/utf8.first", firstData)] [9] :=
  LaidIn.of_run _ 10 (by kernel_rfl) (by kernel_rfl) (by kernel_rfl) (by kernel_rfl)

theorem laid_met (os : Os) (args : Array Value) : laidMet Tryz.prog Rows.fnNoValueRow.laid ((laidWorld os).forCall (fun _ _ => 0) ⟨#[], args, []⟩).memory := by
  have h := (((piece0 os args).append (piece1 os args) (by kernel_rfl)).append (piece2 os args) (by kernel_rfl)).met
  rw [← Pinned.caseRanges_eq, ← Pinned.utf8First_eq] at h
  exact h

end Go.Proofs.YtbklpdcipfhdjaaGreatDoor.Wit
