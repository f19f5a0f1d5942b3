import Derived.Test.Qxb6614863aDoorW5
import Derived.Deep.RegionHeld3
namespace Go.Proofs.Qxb6614863aDoor
open Go.RowKit Go.Lib

theorem utoa_any (u : Nat) (w : World) (h64 : u < 18446744073709551616) :
    Calls Tryd.prog 16 #[.int .u64 (u : Int)] w fun e w' => e = .returned (.string ⟨(decDigits u).toArray⟩) ∧ Below w.heap.size w w' := by
  rcases Nat.eq_zero_or_pos u with rfl | h
  · exact utoa_zero w
  · exact utoa_pos u w h h64

set_option maxHeartbeats 800000 in
/-- zzGTIDText -/
theorem gtidText_any (u : Nat) (src : List UInt8) (w : World) (hs : src.length = 16) (hu : u < 18446744073709551616) :
    Calls Tryd.prog 11 #[.agg (Lib.byteCells src).toArray, .int .u64 (u : Int)] w fun e w' => e = .returned (.string ⟨(gtidText src u).toArray⟩) ∧ Below w.heap.size w w' := by
  have hlen : (Lib.byteCells src).toArray.size = 16 := by simp [Lib.byteCells, hs]
  have HI := hid (show (Tryd.prog.info? 25).map (·.size) = some (Lib.byteCells src).toArray.size by rw [hlen]; exact info25)
  have HS := hid hs
  have hul : (uuidText src).length ≤ 36 := by rw [uuidText_length hs]; omega
  have hdl : (decDigits u).length ≤ 20 := by rw [decDigits_length]; exact nDigits_le20 u hu
  clear hs hlen
  generalize hU : uuidText src = U at hul
  generalize hD : decDigits u = D at hdl
  have HU := hid hU
  have HD := hid hD
  clear hU hD
  go_enter Tryd.func11, Tryd.ntmps11
  go_wp2_with (first | (refine wpList_load_row rfl 25 _ rfl w.heap.size rfl 25 _ (0, 0) _ (heap_alloc_new _ _) Tryd.underlying25 rfl HI.out ?_) | (go_at_call 15; refine (uuidText_any src _ HS.out).mono ?_; rintro e w1 ⟨rfl, hb1⟩; rw [HU.out]; refine Hid.out ?_))
  refine Lib.hid ?_
  go_wp2_with (go_at_call 16; refine (utoa_any u _ hu).mono ?_; rintro e w2 ⟨rfl, hb2⟩; rw [HD.out]; refine Hid.out ?_)
  refine Lib.hid ?_
  go_wp2
  go_ret
  have hbA : Below w.heap.size w (w.alloc (.cells (Lib.byteCells src).toArray 25)) := (Below.refl _ _).alloc (Nat.le_refl _) _
  have hz1 := hb1.size
  refine ⟨?_, (hbA.trans (hb1.mono (by simp))).trans (hb2.mono (by simp at hz1; omega))⟩
  rw [gtidText, HU.out, HD.out]
  exact congrArg (fun b : ByteArray => Ending.returned (Value.string b)) (ByteArray.ext (by simp))

theorem tab_up {B B' : Nat} {w W : World} (h : Lib.TabBelow Tryd.prog B w powName .u64 Lib.pow10Tab) (hb : Below B w W) (hB : B ≤ B') : Lib.TabBelow Tryd.prog B' W powName .u64 Lib.pow10Tab :=
  fun w' h' => h w' (hb.trans (h'.mono hB))

theorem range_box {w : World} {b : Nat} {f : Int} {src : List UInt8} {u : Nat} (h : w.heap[b]? = some (.cells (gcells f src u).toArray 32 (0, 0))) : w.rangeAt b 0 (gcells f src u) := by
  intro j v hv
  rw [Nat.zero_add, cell_of_row _ _ _ _ 32 (0, 0) h]
  simpa using hv
/-- the call of AppendTo inside String -/
theorem string_call (u : Nat) (f : Int) (src : List UInt8) (w : World) (hs : src.length = 16) (hu : u < 18446744073709551616) (htab : Lib.TabBelow Tryd.prog w.heap.size w powName .u64 Lib.pow10Tab) :
    Calls Tryd.prog 13 #[.agg (gcells f src u).toArray, .slice (some ⟨w.heap.size + 1, 0, none⟩) 0 57] ((w.alloc (.cells (gcells f src u).toArray 32)).alloc (.cells (Array.replicate 57 (.int .u8 0)) 5)).drew
      fun e w' => ∃ g cap, e = .returned (.slice (some ⟨g, 0, none⟩) (gtidText src u).length cap) ∧ (∀ j (hj : j < (gtidText src u).length), w'.cell? ((⟨g, 0, none⟩ : Addr).add j) = some (.int .u8 ((gtidText src u)[j].toNat : Int))) ∧ Below w.heap.size w w' ∧ w'.rangeAt w.heap.size 0 (gcells f src u) := by
  have hbA : Below w.heap.size w ((w.alloc (.cells (gcells f src u).toArray 32)).alloc (.cells (Array.replicate 57 (.int .u8 0)) 5)).drew := (((Below.refl _ _).alloc (Nat.le_refl _) _).alloc (by simp) _).drew
  have hown : (((w.alloc (.cells (gcells f src u).toArray 32)).alloc (.cells (Array.replicate 57 (.int .u8 0)) 5)).drew).ownsRow (w.heap.size + 1) 5 1 (.slice (some ⟨w.heap.size + 1, 0, none⟩) 0 57) 0 [] := made_own w _ _ 57 (by simp) (by decide)
  have c := appendTo_own (w.heap.size + 1) 0 u f _ [] src _ hown (by simp) hs (by omega) hu (tab_up htab hbA (by omega))
  refine c.mono ?_
  rintro e w' ⟨v', rfl, hown', hfr⟩
  rw [Nat.zero_add, List.nil_append] at hown'
  have hpos : 0 < (gtidText src u).length := by simp [gtidText]; omega
  rcases hown'.2 with ⟨-, h0⟩ | ⟨g, cap, cur, rfl, -, -, -, -, -, -⟩
  · omega
  · exact ⟨g, cap, rfl, fun j hj => hown'.cells (g := g) rfl j _ (by simp [Lib.byteCells, hj]), hbA.trans (hfr.1.mono (by omega)), range_box (hfr.keeps (heap_alloc2_old _ _ _) (by decide))⟩

set_option maxHeartbeats 800000 in
/-- (GTID).String -/
theorem string_any (u : Nat) (f : Int) (src : List UInt8) (w : World) (hs : src.length = 16) (hu : u < 18446744073709551616) (htab : Lib.TabBelow Tryd.prog w.heap.size w powName .u64 Lib.pow10Tab) :
    Calls Tryd.prog 12 #[.agg (gcells f src u).toArray] w fun e w' => e = .returned (.string ⟨(gtidText src u).toArray⟩) ∧ Below w.heap.size w w' := by
  have hmk : ∀ w : World, (Instr.makeSlice 27 (.int .i64 0) (.int .i64 57)).run Tryd.prog w = .ok (.slice (some ⟨w.heap.size, 0, none⟩) 0 57) (w.alloc (.cells (Array.replicate 57 (.int .u8 0)) 5)) := fun _ => by kernel_rfl
  have HT := hid htab
  clear htab
  have hE := string_call u f src w hs hu HT.out
  obtain ⟨T, hT⟩ : ∃ T, gtidText src u = T := ⟨_, rfl⟩
  rw [hT] at hE ⊢
  clear hT
  have HE := hid hE
  have hl : (gcells f src u).length = 18 := gcells_length hs
  have hi : (Tryd.prog.info? 32).map (·.size) = some (gcells f src u).length := by rw [hl]; exact info32
  have hr0 : (w.alloc (.cells (gcells f src u).toArray 32)).rangeAt w.heap.size 0 (gcells f src u) := range_box (heap_alloc_new _ _)
  have HI := hid hi
  have HR := hid hr0
  clear hE hs hl hi hr0
  go_enter Tryd.func12, Tryd.ntmps12
  go_wp2
  refine wp_region_held_drew (S := fun w' => w'.rangeAt w.heap.size 0 (gcells f src u)) (by kernel_rfl) HR.out (fun hHeld => ?_)
  refine' wpAnyH_take (i := 0) (v := _) rfl (by kernel_rfl) (by kernel_rfl) (by kernel_rfl) (fun _ _ _ h => h) (yieldsIf_load_mid (by rfl) _ _ rfl _ _ rfl _ _ (fun _ h => h) Tryd.underlying32 rfl HI.out) hHeld ?rest
  simp only [Act.put, List.setIfInBounds_toArray]
  refine wpAnyH_ready (rs := [1]) (by kernel_rfl) (by simp) ?_
  refine AllReadyH.cons rfl (fun K hK => ?_) AllReadyH.nil
  go_simp
  refine hK.out _ _ (World.rangeAt_alloc HR.out _) (fun hHeld => ?_)
  clear hK K
  refine wpAnyH_ready (rs := [2]) (by kernel_rfl) (by simp) ?_
  refine AllReadyH.cons rfl (fun K hK => ?_) AllReadyH.nil
  go_simp
  refine Calls.mono HE.out ?_
  rintro e w1 ⟨g, cap, rfl, hc1, hb1, hr1⟩
  have hcv := run_convert_bytes_back (P := Tryd.prog) w1 27 9 5 ⟨g, 0, none⟩ cap T Tryd.underlying27 Tryd.underlying5 Tryd.underlying9 hc1
  clear hc1
  refine hK.out _ _ hr1 (fun hHeld => ?_)
  clear hK K
  refine wpAnyH_ready (rs := [3]) (by kernel_rfl) (by simp) ?_
  refine AllReadyH.cons rfl (fun K hK => ?_) AllReadyH.nil
  go_simp
  refine hK.out _ _ hr1 (fun hHeld => ?_)
  clear hK K
  refine wpAnyH_ready (rs := [4]) (by kernel_rfl) (by simp) ?_
  refine AllReadyH.cons rfl (fun K hK => ?_) AllReadyH.nil
  go_simp
  refine hK.out _ _ hr1 (fun hHeld => ?_)
  clear hK K
  refine wpAnyH_done (by kernel_rfl) ?_ _
  go_wp2
  go_ret
  exact ⟨rfl, hb1⟩
end Go.Proofs.Qxb6614863aDoor
