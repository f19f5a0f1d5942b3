import Derived.Test.Qxb6614863aDoorW4
import Derived.Test.Qxb6614863aDoorRows
import Derived.Deep.MidRow
import Derived.Lib.AppendIntMem
namespace Go.Proofs.Qxb6614863aDoor
open Go.RowKit Go.Lib

/-- the cells of a GTID -/
def gcells (f : Int) (src : List UInt8) (u : Nat) : List Value := .int .u8 f :: (Lib.byteCells src ++ [.int .u64 (u : Int)])
theorem gcells_length {f : Int} {src : List UInt8} {u : Nat} (h : src.length = 16) : (gcells f src u).length = 18 := by simp [gcells, Lib.byteCells, h]
theorem gcells_range {w : World} {b : Nat} {f : Int} {src : List UInt8} {u : Nat} (h : w.heap[b]? = some (.cells (gcells f src u).toArray 32 (0, 0))) : w.rangeAt b 1 (Lib.byteCells src) := by
  intro j v hv
  have hj : j < (Lib.byteCells src).length := (List.getElem?_eq_some_iff.1 hv).1
  rw [cell_of_row w b _ _ 32 (0, 0) h]
  simp only [gcells, List.getElem?_toArray, Nat.add_comm 1 j, List.getElem?_cons_succ]
  rw [List.getElem?_append_left hj, hv]
theorem gcells_last {w : World} {b : Nat} {f : Int} {src : List UInt8} {u : Nat} (hs : src.length = 16) (h : w.heap[b]? = some (.cells (gcells f src u).toArray 32 (0, 0))) : w.cell? ⟨b, 17, none⟩ = some (.int .u64 (u : Int)) := by
  rw [cell_of_row w b _ _ 32 (0, 0) h]
  simp [gcells, Lib.byteCells, hs]
theorem info30 : (Tryd.prog.info? 30).map (·.size) = some 16 := by kernel_rfl
theorem info32 : (Tryd.prog.info? 32).map (·.size) = some 18 := by kernel_rfl
theorem info25 : (Tryd.prog.info? 25).map (·.size) = some 16 := by kernel_rfl

set_option maxHeartbeats 800000 in
/-- (GTID).AppendTo onto a row that the call owns -/
theorem appendTo_own (B n u : Nat) (f : Int) (sv : Value) (xs : List Value) (src : List UInt8) (w : World) (hown : w.ownsRow B 5 1 sv n xs) (hBw : B ≤ w.heap.size) (hs : src.length = 16) (hlim : n + 57 ≤ 70368744177664)
    (hu : u < 18446744073709551616) (htab : Lib.TabBelow Tryd.prog B w powName .u64 Lib.pow10Tab) :
    Calls Tryd.prog 13 #[.agg (gcells f src u).toArray, sv] w fun e w' => ∃ v', e = .returned v' ∧ w'.ownsRow B 5 1 v' (n + (gtidText src u).length) (xs ++ Lib.byteCells (gtidText src u)) ∧ Fr B w w' := by
  obtain ⟨i0, hi, hz0, hz1, hz2⟩ := info_parts infoByte
  have hblk := heap_alloc_new w (.cells (gcells f src u).toArray 32)
  have hrng := gcells_range hblk
  have hfA : Fr B w (w.alloc (.cells (gcells f src u).toArray 32)) := (Fr.refl _ _).alloc hBw _
  have hA := hown.alloc (.cells (gcells f src u).toArray 32)
  have hC := appendText_own B n sv xs src (w.alloc (.cells (gcells f src u).toArray 32)) hA (by simp; omega) hs (by omega)
  have hlen : (Lib.byteCells src).length = 16 := by simp [Lib.byteCells, hs]
  have HI := hid (show (Tryd.prog.info? 30).map (·.size) = some (Lib.byteCells src).length by rw [hlen]; exact info30)
  have HC := hid hC
  have HR := hid hrng
  have HB := hid hblk
  have HF := hid hfA
  have HS := hid hs
  have HT := hid htab
  clear hC hrng hblk hfA hs htab hlen hown hA
  go_enter Tryd.func13, Tryd.ntmps13
  go_wp2_with (first | (refine wpList_load_mid rfl 30 _ rfl w.heap.size 1 rfl (Lib.byteCells src) _ HR.out Tryd.underlying30 rfl HI.out ?_) | (go_at_call 17; refine Calls.mono HC.out ?_; rintro e w1 ⟨v1, rfl, hown1, hfr1⟩; refine Hid.out ?_))
  refine Lib.hid ?_
  have hfw1 := HF.out.trans hfr1
  have hb1 := hfr1.keeps HB.out (by decide)
  have hsz1 : w.heap.size < w1.heap.size := lt_of_block hb1
  have HW := hid (And.intro hb1 hfw1)
  clear hfr1 hb1 hfw1
  go_wp2_with (at_builtin; refine wpList_append_own _ rfl _ _ 27 rfl B 5 i0 (.int .u8 0) 1 1 Tryd.underlying27 hi hz0 hz1 hz2 rfl (by decide) _ _ _ rfl (hown1.alloc _) ⟨w1.heap.size, 0, none⟩ 1 1 [.int .u8 58] rfl rfl (cellOne _ _ _) (by intro u' hu'; simp at hu'; subst hu'; rfl) (by unfold maxLen; omega) (by omega) (by simp; omega) ?_)
  intro v2 w2 hown2 hgrow2 _
  have hf2 := ((Fr.refl B w1).alloc (by omega) _).grown (hown1.alloc _) hgrow2 (by simp; omega)
  have hb2 := hf2.keeps HW.out.1 (by decide)
  have hl2 := gcells_last HS.out hb2
  have hsz2 : w1.heap.size ≤ w2.heap.size := hf2.1.size
  have hF2 := HW.out.2.trans hf2
  have hT2 : Lib.TabIs Tryd.prog w2 powName .u64 Lib.pow10Tab := HT.out w2 hF2.1
  have hE := Tryd.internal_strconv_AppendUint_10 B (n + 36 + 1) u hu v2 _ w2 hown2 (by omega) (by omega) hT2
  have HE := hid hE
  have HW2 := hid hF2
  clear hE hT2 hF2 hf2 hgrow2 hb2 hown1 hown2
  go_wp2_with (first | (go_at_call 21; refine Calls.mono HE.out ?_; rintro e w3 ⟨v3, rfl, hown3, hb3, ho3⟩; refine Hid.out ?_) | (go_at_call 18; go_in))
  refine Lib.hid ?_
  have HX := hid (And.intro hown3 (HW2.out.trans ⟨hb3, ho3⟩))
  clear hown3 hb3 ho3
  go_wp2
  go_ret
  refine ⟨_, rfl, own_eq HX.out.1 ?_ ?_, HX.out.2⟩
  · rw [gtidText]
    simp [uuidText_length HS.out]
    omega
  · simp [gtidText, Lib.byteCells]
end Go.Proofs.Qxb6614863aDoor
