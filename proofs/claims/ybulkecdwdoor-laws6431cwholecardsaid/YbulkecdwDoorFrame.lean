import Derived.Test.YbulkecdwDoorRows
import Derived.Test.YbulkecdwDoorWalk
import Derived.ChangeSame
import Derived.ChangeVars
import Derived.JoinedOf
import Derived.RowKit
import Derived.LaidLaws
import Derived.LaidHandle
import Derived.MakeChecks
import Derived.Lib.LaidTab
import Derived.Stop.Joined
namespace Go.Proofs.YbulkecdwDoor
open Go.ChangeShapes Go.WideShapes Go.RowKit

theorem own : ownKnob Ybad.prog.godebug = none := by kernel_rfl
/-- The variable's name, off the given row. -/
def vname : String := Rows.lawS6431CHitRow.named.headD ""
theorem pow : Ybad.prog.globalNamed vname = some 0 := by kernel_rfl
theorem powType : (Ybad.prog.globals[0]?).map (·.type) = some 29 := by kernel_rfl
theorem cells29 : Ybad.prog.cellsOf 29 = 21 := by kernel_rfl
theorem cells22 : Ybad.prog.cellsOf 22 = 1 := by kernel_rfl

/-- The table as the rows list it. -/
def laidList : List (String × DataW Unit) := [(vname, Rows.laid_example_com_matchrate_matchrate_figure_pow10Float)]
def tabH {H : Type} : DataW H := .agg (pw.map fun z => .lit (.float .f64 z))
theorem tab_same {H : Type} : (Rows.laid_example_com_matchrate_matchrate_figure_pow10Float : DataW H) = tabH := rfl
def cells21 : List Value := pw.map fun z => .float .f64 z

theorem float_of_trod {H : Type} {enc : TypeId × Value → H} {P : Program} {w : World} {base : Nat} {sp : Nat → Bool} {held : Bool} {fuel : Nat} {t : TypeId} {k : FloatKind} {cs : List Value} {y : DataW H × List MemPlace}
    (ht : P.underlying t = some (.float k)) (h : DataW.trod enc P w base sp held fuel t cs = some y) : ∃ n, cs = [.float k n] ∧ y = (.lit (.float k n), []) := by
  cases fuel with
  | zero => simp [DataW.trod] at h
  | succ fuel =>
    unfold DataW.trod at h
    rw [ht] at h
    split at h <;> first | (rename_i hh; cases hh; done) | skip
    all_goals simp_all
    all_goals first | (rename_i k' b _ _ ; obtain ⟨⟨rfl, _⟩, rfl⟩ := h; rfl) | skip

theorem cells_of_tab {H : Type} {enc : TypeId × Value → H} {w : World} {base : Nat} {sp : Nat → Bool} {held : Bool} {fuel : Nat} {cs : List Value} {p : List MemPlace}
    (h : DataW.trod enc Ybad.prog w base sp held fuel 29 cs = some (tabH, p)) : cs = cells21 := by
  cases fuel with
  | zero => simp [DataW.trod] at h
  | succ fuel =>
    simp only [DataW.trod, Ybad.underlying29, cells22, cells29, Nat.mul_one] at h
    split at h
    · rename_i hl
      obtain ⟨xs, hm, hx⟩ := Option.map_eq_some_iff.1 h
      have hxs : xs.map (·.1) = pw.map fun z => (DataW.lit (.float .f64 z) : DataW H) := by
        have := congrArg Prod.fst hx
        simpa [tabH] using this
      apply List.ext_getElem?
      intro i
      by_cases hi : i < 21
      · obtain ⟨b, hb, hf⟩ := Lib.mapM_at hm i i (by simp [hi])
        obtain ⟨z, hc, rfl⟩ := float_of_trod Ybad.underlying22 hf
        have h1 : cs[i]? = some (.float .f64 z) := by
          have := congrArg (·[0]?) hc
          simpa [List.getElem?_take, List.getElem?_drop] using this
        have h2 : (xs.map (·.1))[i]? = some (DataW.lit (.float .f64 z) : DataW H) := by simp [hb]
        rw [hxs] at h2
        simp only [List.getElem?_map, Option.map_eq_some_iff, DataW.lit.injEq, Lit.float.injEq, true_and] at h2
        obtain ⟨z', hz', rfl⟩ := h2
        simp [h1, hz', cells21]
      · rw [List.getElem?_eq_none (by omega), List.getElem?_eq_none (by simp [cells21, pw]; omega)]
    · cases h

theorem var_of_laid {W : World} (h : laidMet Ybad.prog laidList W) : W.var? Ybad.prog vname = some cells21.toArray := by
  obtain ⟨ps, ⟨g, t, cs, fuel, p, q, hg, ht, hvar, hd, _, _⟩, _⟩ := h
  obtain rfl := Option.some.inj (pow.symm.trans hg)
  obtain rfl := Option.some.inj (powType.symm.trans ht)
  rw [hvar, ← cells_of_tab hd]

theorem tab_of_var {W : World} (h : W.var? Ybad.prog vname = some cells21.toArray) : Tab W := by
  intro i hi
  have := World.var?_cell pow h i
  rw [this]
  have hl : i < pw.length := hi
  simp [cells21, hl]

/-- A world that meets the condition: the settled one, the variable's cells laid. -/
def lay21 (w : World) : World :=
  { w with heap := w.heap.modify 0 fun
      | .cells _ t frozen => .cells cells21.toArray t frozen
      | o => o }

theorem plainList : (laidList.all fun x => x.2.handleName?.isNone) = true := by kernel_rfl
theorem laidWorld_met (os : Os) (args : Array Value) : laidMetH Ybad.prog laidList ((lay21 (World.holding Ybad.prog os ⟨#[], #[], []⟩)).forCall (fun _ _ => 0) ⟨#[], args, []⟩).memory := by
  rw [MakeChecks.laidMetH_plain _ _ _ plainList]
  exact laidMet_of_run' 8 (by kernel_rfl) (by kernel_rfl)

theorem reads_table {H : Type} (enc : TypeId × Value → H) (W : World) (sp : Nat → Bool) : DataW.trod enc Ybad.prog W 0 sp true 3 29 cells21 = some (tabH, []) := by kernel_rfl
end Go.Proofs.YbulkecdwDoor
