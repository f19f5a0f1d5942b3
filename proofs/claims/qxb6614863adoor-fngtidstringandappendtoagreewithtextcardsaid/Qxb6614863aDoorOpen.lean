import Derived.Test.Qxb6614863aDoorW7
import Derived.ProofKit
import Derived.LaidMore
import Derived.OpenShut
import Derived.Stop.Joined
import Derived.Stop.LaidErr
import Derived.Lib.LaidTab
namespace Go.Proofs.Qxb6614863aDoor
open Go.ChangeShapes Go.WideShapes Go.ChangeAt Go.WideMaps Go.WideElems Go.RowKit

theorem own : ownKnob Tryd.prog.godebug = none := by kernel_rfl
theorem laidOut : laidOutB Tryd.prog = true := by kernel_rfl
theorem cells5 : Tryd.prog.cellsOf 5 = 1 := by kernel_rfl
theorem cells25 : Tryd.prog.cellsOf 25 = 16 := by kernel_rfl
theorem cells26 : Tryd.prog.cellsOf 26 = 1 := by kernel_rfl

theorem bytes_of_cells : ∀ (cs : List Value), (∀ i, i < cs.length → ∃ b : UInt8, cs[i]? = some (.int .u8 (b.toNat : Int))) → ∃ src : List UInt8, cs = Lib.byteCells src
  | [], _ => ⟨[], rfl⟩
  | c :: cs, h => by
    obtain ⟨src, hs⟩ := bytes_of_cells cs (fun i hi => by
      obtain ⟨b, hb⟩ := h (i + 1) (by simp; omega)
      exact ⟨b, by simpa using hb⟩)
    obtain ⟨b, hb⟩ := h 0 (by simp)
    simp at hb
    exact ⟨b :: src, by simp [Lib.byteCells, hs, hb]⟩

/-- an array of sixteen bytes, opened -/
theorem open16 {H : Type} {enc : TypeId × Value → H} {W : World} {base : Nat} {v : Value} {d : DataW H} {p : List MemPlace} (hv : Value.okWide Tryd.prog W .any base 25 v) (h : DataW.Trod enc Tryd.prog W 0 (fun _ => true) true 25 v d p) :
    ∃ src : List UInt8, src.length = 16 ∧ v = .agg (Lib.byteCells src).toArray := by
  obtain ⟨cs, rfl, hsz, _⟩ : ∃ cs, v = .agg cs ∧ cs.size = Tryd.prog.cellsOf 25 ∧ Row.okWide Tryd.prog W .any base 25 cs := by simpa [Value.okWide, Tryd.underlying25] using hv
  rw [cells25] at hsz
  obtain ⟨fuel, hf⟩ := h
  obtain ⟨xs, m, rfl, -, -, hxl, hel⟩ := DataW.trod_array Tryd.underlying25 hf
  obtain ⟨l⟩ := cs
  have hl : l.length = 16 := by simpa using hsz
  obtain ⟨src, rfl⟩ := bytes_of_cells l (fun i hi => by
    have h1 := hel i (by omega)
    rw [List.getElem?_eq_getElem (by omega)] at h1
    obtain ⟨n, hc, -, hw⟩ := DataW.trod_int Tryd.underlying5 h1
    have hb := bounds_u8 hw
    refine ⟨UInt8.ofNat n.toNat, ?_⟩
    rw [cells5] at hc
    have := congrArg (·[0]?) hc
    simp only [Value.cells, Nat.mul_one, List.getElem?_take, List.getElem?_drop] at this
    simp only [Nat.zero_lt_one, if_true, Nat.add_zero, List.getElem?_cons_zero] at this
    rw [this]
    simp
    omega)
  exact ⟨src, by simpa [Lib.byteCells] using hl, rfl⟩

/-- the three listed tables -/
def laid3 : List (String × DataW Unit) := Rows.fnGTIDStringAndAppendToAgreeWithTextRow.laid
theorem gPow : Tryd.prog.globalNamed powName = some 1 := by kernel_rfl
theorem tPow : (Tryd.prog.globals[1]?).map (·.type) = some 56 := by kernel_rfl
theorem cells56 : Tryd.prog.cellsOf 56 = 20 := by kernel_rfl
theorem pow_datum : (Rows.laid_internal_strconv_uint64pow10 : DataW Unit) = Lib.tabData .u64 Lib.pow10Tab := by kernel_rfl
theorem laid3_eq : laid3 = [(Rows.fnGTIDStringAndAppendToAgreeWithTextRow.laid.map (·.1)).getD 0 "" |> (·, Rows.laid_math_bits_deBruijn32tab), ((Rows.fnGTIDStringAndAppendToAgreeWithTextRow.laid.map (·.1)).getD 1 "", Rows.laid_math_bits_deBruijn64tab), (powName, Lib.tabData .u64 Lib.pow10Tab)] := by
  rw [← pow_datum]
  rfl
/-- what the row's condition gives the walks -/
theorem tab_of_laid {W : World} (h : laidMetH Tryd.prog laid3 W) : Lib.TabIs Tryd.prog W powName .u64 Lib.pow10Tab := by
  rw [MakeChecks.laidMetH_plain _ _ _ (by kernel_rfl), laid3_eq] at h
  exact Lib.tabIs_of_head gPow tPow Tryd.underlying56 Tryd.underlying26 cells26 cells56 h.tail.tail

/-- the door's own heap meets the condition -/
theorem door_met (os : Os) (args : Array Value) : laidMetH Tryd.prog laid3 ((World.doorLaid Tryd.prog 400 os).forCall (fun _ _ => 0) ⟨#[], args, []⟩).memory :=
  laidMetH_of_parts3 (fuel := 8) (laidMet_of_run' 8 (by kernel_rfl) (by kernel_rfl)) (by kernel_rfl) (by kernel_rfl)

end Go.Proofs.Qxb6614863aDoor
