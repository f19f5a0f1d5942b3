import Derived.Test.Qxb6615722aDoorRows
import Derived.Test.Qxb6615722aDoorPoint
import Derived.ChangeVars
import Derived.LaidMore
import Derived.OpenShut
import Derived.Stop.Joined
import Derived.Stop.LaidErr
import Derived.Lib.LaidTab
namespace Go.Proofs.Qxb6615722aDoor
open Go.ChangeShapes Go.WideShapes Go.ChangeAt Go.WideMaps Go.WideElems Go.RowKit

theorem own : ownKnob Tryd.prog.godebug = none := by kernel_rfl
theorem laidOut : laidOutB Tryd.prog = true := by kernel_rfl
/-- the scales' name -/
def scName : String := Rows.fnPointMonotoneAndSaturatesRow.named.headD ""
def laid1 : List (String × DataW Unit) := Rows.fnPointMonotoneAndSaturatesRow.laid
theorem gSc : Tryd.prog.globalNamed scName = some 0 := by kernel_rfl
theorem tSc : (Tryd.prog.globals[0]?).map (·.type) = some 25 := by kernel_rfl
theorem cells25 : Tryd.prog.cellsOf 25 = 3 := by kernel_rfl
theorem cells22 : Tryd.prog.cellsOf 22 = 1 := by kernel_rfl
def cells3 : Array Value := #[.float .f64 4616189618054758400, .float .f64 4679240012837945344, .float .f64 4661225614328463360]

theorem float_of_trod {H : Type} {enc : TypeId × Value → H} {P : Program} {w : World} {base : Nat} {sp : Nat → Bool} {held : Bool} {fuel : Nat} {t : TypeId} {k : FloatKind} {c : Value} {y : DataW H × List MemPlace}
    (ht : P.underlying t = some (.float k)) (h : DataW.trod enc P w base sp held fuel t [c] = some y) : ∃ n, c = .float k n ∧ y = (.lit (.float k n), []) := by
  cases fuel with
  | zero => simp [DataW.trod] at h
  | succ fuel =>
    cases c <;> simp [DataW.trod, ht] at h
    rename_i k' n
    obtain ⟨⟨rfl, _⟩, rfl⟩ := h
    exact ⟨n, rfl, rfl⟩

theorem cells_of_laid {W : World} (h : laidMetH Tryd.prog laid1 W) : W.var? Tryd.prog scName = some cells3 := by
  rw [MakeChecks.laidMetH_plain _ _ _ (by kernel_rfl)] at h
  obtain ⟨ps, ⟨g, t, cs, fuel, p, q, hg, ht, hvar, hd, _, _⟩, _⟩ := h
  obtain rfl := Option.some.inj (gSc.symm.trans hg)
  obtain rfl := Option.some.inj (tSc.symm.trans ht)
  have hvar : W.var? Tryd.prog scName = some cs := hvar
  rw [hvar]
  congr 1
  obtain ⟨l⟩ := cs
  cases fuel with
  | zero => simp [DataW.trod] at hd
  | succ fuel =>
    simp only [DataW.trod, Tryd.underlying25, cells25, cells22] at hd
    split at hd
    · rename_i hl
      obtain ⟨c0, c1, c2, rfl⟩ : ∃ c0 c1 c2, l = [c0, c1, c2] := by
        match l, hl with
        | [a, b, c], _ => exact ⟨a, b, c, rfl⟩
      have e : List.range 3 = [0, 1, 2] := rfl
      rw [e] at hd
      simp only [Option.map_eq_some_iff, List.mapM_cons, List.mapM_nil, Option.bind_eq_bind, Option.bind_eq_some_iff, Option.pure_def, Option.some.injEq] at hd
      obtain ⟨xs, ⟨y0, h0, _, ⟨y1, h1, _, ⟨y2, h2, _, rfl, rfl⟩, rfl⟩, rfl⟩, hx⟩ := hd
      obtain ⟨n0, rfl, rfl⟩ := float_of_trod Tryd.underlying22 h0
      obtain ⟨n1, rfl, rfl⟩ := float_of_trod Tryd.underlying22 h1
      obtain ⟨n2, rfl, rfl⟩ := float_of_trod Tryd.underlying22 h2
      simp [Rows.laid_example_com_idlewell_idlewell_space_scales] at hx
      obtain ⟨⟨rfl, rfl, rfl⟩, _⟩ := hx
      rfl
    · cases hd
theorem scales_of {W : World} (h : W.var? Tryd.prog scName = some cells3) : Scales W :=
  ⟨World.var?_cell gSc h 0, World.var?_cell gSc h 1, World.var?_cell gSc h 2⟩

/-- the scales as data -/
def tableH {H : Type} : DataW H := .agg [.lit (.float .f64 4616189618054758400), .lit (.float .f64 4679240012837945344), .lit (.float .f64 4661225614328463360)]
theorem reads_table {H : Type} (enc : TypeId × Value → H) (W : World) (sp : Nat → Bool) : DataW.trod enc Tryd.prog W 0 sp true 3 25 cells3.toList = some (tableH, []) := by kernel_rfl
theorem var_below {W W' : World} (hb : Below W.heap.size W W') (h : W.var? Tryd.prog scName = some cells3) : W'.var? Tryd.prog scName = some cells3 := by
  have hlt : 0 < W.heap.size := block_lt_of_cell (scales_of h).1
  have e := hb.block 0 hlt
  simp only [World.var?, gSc, Option.bind_some, e] at h ⊢
  exact h

/-- the door's own heap meets the condition -/
theorem door_met (os : Os) (args : Array Value) : laidMetH Tryd.prog laid1 ((World.doorLaid Tryd.prog 400 os).forCall (fun _ _ => 0) ⟨#[], args, []⟩).memory :=
  laidMetH_of_parts3 (fuel := 8) (laidMet_of_run' 8 (by kernel_rfl) (by kernel_rfl)) (by kernel_rfl) (by kernel_rfl)
theorem float_lt {b : Nat} (h : (Lit.float .f64 b).wf = true) : b < 18446744073709551616 := by
  simpa [Lit.wf] using h
end Go.Proofs.Qxb6615722aDoor
