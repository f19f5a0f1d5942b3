import Derived.Test.Qxb6614863aDoorOpen
import Derived.Test.Qxb6614863aDoorW9
namespace Go.Proofs.Qxb6614863aDoor
open Go.ChangeShapes Go.WideShapes Go.ChangeAt Go.WideMaps Go.WideElems Go.RowKit
/-- a slice of bytes, opened -/
theorem openBytes {H : Type} {enc : TypeId × Value → H} {W : World} {base : Nat} {v : Value} {d : DataW H} {p : List MemPlace} (hv : Value.okWide Tryd.prog W .any base 27 v) (h : DataW.Trod enc Tryd.prog W 0 (fun _ => true) true 27 v d p) :
    ∃ a cap l, v = .slice a (List.length l) cap ∧ Came W a cap l := by
  obtain ⟨a0, len, cap, rfl⟩ := okWide_slice Tryd.underlying27 hv
  obtain ⟨fuel, hf⟩ := h
  rcases open_ints Tryd.underlying27 Tryd.underlying5 cells5 hf with ⟨hcs, _⟩ | ⟨x, len', cap', zs, hcs, _, hl, hm, hz, _, hcell, hwz⟩
  · simp [Value.cells] at hcs
    obtain ⟨rfl, rfl, rfl⟩ := hcs
    exact ⟨none, 0, [], rfl, ⟨fun _ => ⟨rfl, rfl⟩, fun ad e => (by cases e)⟩⟩
  · simp [Value.cells] at hcs
    obtain ⟨rfl, rfl, rfl⟩ := hcs
    have hz' : zs.length = cap := by simpa using hz
    have hlen : ((zs.take len).map fun n : Int => UInt8.ofNat n.toNat).length = len := by
      rw [List.length_map, List.length_take]
      omega
    refine ⟨some x, cap, (zs.take len).map fun n : Int => UInt8.ofNat n.toNat, by rw [hlen], ⟨fun e => (by cases e), ?_⟩⟩
    rintro ad ⟨⟩ j v hj
    have hjl : j < len := by
      have := (List.getElem?_eq_some_iff.1 hj).1
      simp only [Lib.byteCells, List.length_map] at this hlen
      omega
    have hc := hcell j (by omega)
    rw [hc]
    have hb := bounds_u8 (hwz zs[j] (List.getElem_mem (by omega)))
    have hx : zs.getD j 0 = zs[j] := by simp [List.getD, show j < zs.length by omega]
    rw [hx]
    simp [Lib.byteCells, hjl, show j < zs.length by omega] at hj
    subst hj
    congr 2
    omega
end Go.Proofs.Qxb6614863aDoor
