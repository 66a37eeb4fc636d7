/- What the variables listed by the rows give the walks. -/
import Derived.Test.YtbklpdcipfhdjaaGreatDoorWit
import Derived.Test.YtbklpdcipfhdjaaGreatDoorR
import Derived.Stop.LaidErr
import Derived.Stop.ErrReads
import Derived.Stop.Texts
import Derived.Lib.LaidTab
namespace Go.Proofs.YtbklpdcipfhdjaaGreatDoor.Ev
open Go.ChangeShapes Go.WideShapes Go.ChangeAt Go.RowKit Go.Lib Go.Proofs.YtbklpdcipfhdjaaGreatDoor.R Go.Proofs.YtbklpdcipfhdjaaGreatDoor.Wit

theorem star : "*" ++ "errors.errorString" = "*errors.errorString" := by decide
theorem row188 (u : TypeId) (h : Tryz.prog.typeName? 3 u = some "*errors.errorString") : u = 188 :=
  typeName_ptr_named (nm := "errors.errorString") (by rw [star]; kernel_rfl) (by kernel_rfl) (by decide) u (by rw [star]; exact h)
theorem n0 : Tryz.prog.globalNamed "loop.example/pub-mediatypes/pub/gomime.ErrInvalidMediaParameter" = some 0 := by kernel_rfl
theorem t0 : (Tryz.prog.globals[0]?).map (·.type) = some 54 := by kernel_rfl
theorem n1 : Tryz.prog.globalNamed "loop.example/pub-mediatypes/pub/gomime.errDuplicateParamName" = some 1 := by kernel_rfl
theorem t1 : (Tryz.prog.globals[1]?).map (·.type) = some 54 := by kernel_rfl
theorem t2 : (Tryz.prog.globals[2]?).map (·.type) = some 93 := by kernel_rfl
theorem cells202 : Tryz.prog.cellsOf 202 = 1 := by kernel_rfl
theorem cells9 : Tryz.prog.cellsOf 9 = 1 := by kernel_rfl
theorem cells5 : Tryz.prog.cellsOf 5 = 1 := by kernel_rfl
theorem cells93 : Tryz.prog.cellsOf 93 = 256 := by kernel_rfl
theorem spData : (Rows.laid_strings_asciiSpace : DataW Unit) = tabData .u8 Lib.asciiSpaceTab := by kernel_rfl

theorem env_of {W : World} (h : laidMet Tryz.prog Rows.fnNoValueRow.laid W) : ∃ (a b : Addr), Env (.iface 188 (.pointer (some a))) (.iface 188 (.pointer (some b))) W := by
  have h5 := h.tail.tail.tail.tail.tail
  rw [spData] at h5
  have hsp := Lib.tabIs_of_head spNamed t2 Tryz.underlying93 Tryz.underlying5 cells5 cells93 h5
  have h10 := h.tail.tail.tail.tail.tail.tail.tail.tail.tail.tail
  obtain ⟨a, sa, hva, _, _, _⟩ := laid_sentinel h10 n0 t0 Tryz.underlying54 row188 Tryz.underlying188 Tryz.underlying202 rfl rfl Tryz.underlying9 cells202 cells9
  obtain ⟨b, sb, hvb, _, _, _⟩ := laid_sentinel h10.tail n1 t1 Tryz.underlying54 row188 Tryz.underlying188 Tryz.underlying202 rfl rfl Tryz.underlying9 cells202 cells9
  exact ⟨a, b, hsp, by simpa using World.var?_cell n0 hva 0, by simpa using World.var?_cell n1 hvb 0⟩

theorem trodVars_len {H : Type} {enc : TypeId × Value → H} {P : Program} {W : World} {sp : Nat → Bool} : ∀ {ns : List String} {gs : List (DataW H)} {ps : List MemPlace}, DataW.TrodVars enc P W sp ns gs ps → gs.length = ns.length
  | [], [], _, _ => rfl
  | [], _ :: _, _, h => h.elim
  | _ :: _, [], _, h => h.elim
  | _ :: _, _ :: _, _, h => by
    obtain ⟨g, t, cs, fuel, p, q, h1, h2, h3, h4, hs, e⟩ := h
    simp [trodVars_len hs]

end Go.Proofs.YtbklpdcipfhdjaaGreatDoor.Ev
