import Derived.Test.Qxb6614863aDoorW8
namespace Go.Proofs.Qxb6614863aDoor
open Go.RowKit Go.Lib

theorem own_below {w w' : World} {B n : Nat} {v : Value} {xs : List Value} (h : w.ownsRow B 5 1 v n xs) (hb : Below w.heap.size w w') : w'.ownsRow B 5 1 v n xs := by
  obtain ⟨h1, h2⟩ := h
  refine ⟨h1, ?_⟩
  rcases h2 with h2 | ⟨g, cap, cur, hv, hg, hh, r⟩
  · exact Or.inl h2
  · exact Or.inr ⟨g, cap, cur, hv, hg, (hb.block g (lt_of_block hh)).trans hh, r⟩

theorem app_eq (l T : List UInt8) : (l ++ T == ((⟨l.toArray⟩ : ByteArray) ++ (⟨T.toArray⟩ : ByteArray)).toList) = true := by
  rw [ByteArray.toList_eq]
  simp

set_option maxHeartbeats 800000 in
theorem law5_long (f : Int) (s : List UInt8) (u : Nat) (a : Option Addr) (cap n : Nat) (w : World) (hs : s.length = 16) (hn : 1048576 < n) :
    Calls Tryd.prog 5 #[.int .u8 f, .agg (Lib.byteCells s).toArray, .int .u64 (u : Int), .slice a n cap] w fun e w' => e = .returned (.bool true) ∧ Below w.heap.size w w' := by
  have H1 := hid hs
  clear hs
  have hni : (1048576 : Int) < (n : Int) := by omega
  go_enter Tryd.func5, Tryd.ntmps5
  go_wp2_with (first | (refine load25 rfl _ rfl w.heap.size rfl s H1.out (heap_alloc_new _ _) ?_) | (go_at_call 9; go_in))
  go_ret
  exact ⟨rfl, ((Below.refl _ _).alloc (Nat.le_refl _) _).alloc (by simp) _⟩

set_option maxHeartbeats 1600000 in
theorem law5_short (f : Int) (s : List UInt8) (u : Nat) (a : Option Addr) (cap : Nat) (l : List UInt8) (w : World) (hs : s.length = 16) (hu : u < 18446744073709551616) (hl : l.length ≤ 1048576) (hcame : Came w a cap l) (htab : Lib.TabBelow Tryd.prog w.heap.size w powName .u64 Lib.pow10Tab) :
    Calls Tryd.prog 5 #[.int .u8 f, .agg (Lib.byteCells s).toArray, .int .u64 (u : Int), .slice a l.length cap] w fun e w' => e = .returned (.bool true) ∧ Below w.heap.size w w' := by
  have H1 := hid hs
  have HT := hid htab
  have hlt : ∀ W, Below w.heap.size w W → Came W a cap l := fun W hb => ⟨hcame.nil, fun ad e j v hj => (hb.cell (p := ad.add j) (by
    have := block_lt_of_cell (hcame.cells ad e j v hj)
    exact this)).trans (hcame.cells ad e j v hj)⟩
  have hb0 : Below w.heap.size w ((w.alloc (.cells (Lib.byteCells s).toArray 25)).alloc (.cells (Lib.byteCells s).toArray 25)) := ((Below.refl _ _).alloc (Nat.le_refl _) _).alloc (by simp) _
  have c1 := clone_came a cap l _ hl (hlt _ hb0)
  have C1 := hid c1
  have HB0 := hid hb0
  have HL := hid hl
  clear hs htab hcame hlt c1 hb0 hl
  generalize hn : l.length = n
  have hln : n ≤ 1048576 := by rw [← hn]; exact HL.out
  have HN := hid hn
  rw [hn] at C1
  clear hn
  have hni : (n : Int) ≤ 1048576 := by omega
  go_enter Tryd.func5, Tryd.ntmps5
  go_wp2_with (first | (refine load25 rfl _ rfl w.heap.size rfl s H1.out (heap_alloc_new _ _) ?_) | (go_at_call 9; go_in) | (go_at_call 10; refine Calls.mono C1.out ?_; rintro e w2 ⟨v1, rfl, hown1, hb2⟩; refine Hid.out ?_))
  refine Lib.hid ?_
  have hbw : Below w.heap.size w w2 := HB0.out.trans (hb2.mono (by simp; omega))
  have b25 : w2.heap[w.heap.size]? = some (.cells (Lib.byteCells s).toArray 25 (0, 0)) := (hb2.block _ (by simp; omega)).trans (heap_alloc2_old _ _ _)
  have hW2 : w.heap.size < w2.heap.size := lt_of_block b25
  have HW := hid (And.intro hbw (And.intro b25 hown1))
  clear hbw b25 hb2 hown1
  go_wp2_with (first | (refine load25 rfl _ rfl w.heap.size rfl s H1.out HW.out.2.1 ?_) | (refine build32 rfl _ _ _ rfl f s u H1.out rfl rfl rfl ?_) | (refine store32 rfl _ _ rfl _ rfl w2.heap.size rfl rfl f s u H1.out rfl ?_; refine Hid.out ?_))
  refine Lib.hid ?_
  obtain ⟨M, hM⟩ : ∃ M, w2.heap.size = M := ⟨_, rfl⟩
  have b25 := keepA HW.out.2.1 (.cells (gcells f s u).toArray 32)
  have b32 := lastA w2 (.cells (gcells f s u).toArray 32) hM.symm
  have hbw := HW.out.1.alloc (Nat.le_of_lt hW2) (.cells (gcells f s u).toArray 32)
  have hown := HW.out.2.2.alloc (.cells (gcells f s u).toArray 32)
  rw [hM]
  have hMw : w.heap.size < M := by omega
  generalize w2.alloc (.cells (gcells f s u).toArray 32) = W at b25 b32 hbw hown ⊢
  have hMW : M < W.heap.size := lt_of_block b32
  have c11 := gtidText_any u s W H1.out hu
  have c12 := fun (w3 : World) (hb : Below w.heap.size w w3) => string_any u f s w3 H1.out hu (tab_up HT.out hb hb.size)
  have hTl : (gtidText s u).length ≤ 57 := by
    have h1 := uuidText_length H1.out
    have h2 : (decDigits u).length ≤ 20 := by rw [decDigits_length]; exact nDigits_le20 u hu
    simp [gtidText, h1]
    omega
  have c13 := fun (w5 : World) (B : Nat) (v2 : Value) (ho : w5.ownsRow B 5 1 v2 n (Lib.byteCells l)) (hB : w.heap.size ≤ B) (hB5 : B ≤ w5.heap.size) (hb : Below w.heap.size w w5) => appendTo_own B n u f v2 (Lib.byteCells l) s w5 ho hB5 H1.out (by omega) hu (tab_up HT.out hb hB)
  generalize gtidText s u = T at c11 c12 c13 hTl
  have C11 := hid c11
  have C12 := hid c12
  have C13 := hid c13
  have HX := hid (And.intro b25 (And.intro b32 (And.intro hbw hown)))
  clear b25 b32 hbw hown c11 c12 c13 HW C1 hM hW2 HB0
  clear w2
  go_wp2_with (first | (refine load25 rfl _ rfl w.heap.size rfl s H1.out HX.out.1 ?_) | (go_at_call 11; refine Calls.mono C11.out ?_; rintro e w3 ⟨rfl, hb3⟩; refine Hid.out ?_))
  refine Lib.hid ?_
  have HX3 := hid (And.intro ((hb3.block M hMW).trans HX.out.2.1) (And.intro (HX.out.2.2.1.trans (hb3.mono HX.out.2.2.1.size)) (own_below HX.out.2.2.2 hb3)))
  have hM3 : M < w3.heap.size := lt_of_block HX3.out.1
  clear hb3
  go_wp2_with (first | (refine load32 rfl _ rfl M rfl f s u H1.out HX3.out.1 ?_) | (go_at_call 12; refine Calls.mono (C12.out w3 HX3.out.2.1) ?_; rintro e w4 ⟨rfl, hb4⟩; refine Hid.out ?_))
  refine Lib.hid ?_
  have HX4 := hid (And.intro ((hb4.block M hM3).trans HX3.out.1) (And.intro (HX3.out.2.1.trans (hb4.mono HX3.out.2.1.size)) (own_below HX3.out.2.2 hb4)))
  have hM4 : M < w4.heap.size := lt_of_block HX4.out.1
  clear hb4
  go_wp2
  have hr0 : w4.drew.rangeAt M 0 (gcells f s u) := range_box (w := w4.drew) HX4.out.1
  have hi : (Tryd.prog.info? 32).map (·.size) = some (gcells f s u).length := by rw [gcells_length H1.out]; exact info32
  have HI := hid hi
  clear hi
  refine wp_region_held_drew (S := fun w' => w'.rangeAt M 0 (gcells f s u)) (by kernel_rfl) hr0 (fun hHeld => ?_)
  refine' wpAnyH_take (i := 0) (v := _) rfl (by kernel_rfl) (by kernel_rfl) (by kernel_rfl) (fun _ _ _ h => h) (yieldsIf_load_mid (by rfl) _ _ rfl _ _ rfl _ _ (fun _ h => h) Tryd.underlying32 rfl HI.out) hHeld ?rest
  simp only [Act.put, List.setIfInBounds_toArray]
  refine wpAnyH_ready (rs := [1]) (by kernel_rfl) (by simp) ?_
  refine AllReadyH.cons rfl (fun K hK => ?_) AllReadyH.nil
  go_simp
  refine hK.out _ _ hr0 (fun hHeld => ?_)
  clear hK K
  refine wpAnyH_ready (rs := [2]) (by kernel_rfl) (by simp) ?_
  refine AllReadyH.cons rfl (fun K hK => ?_) AllReadyH.nil
  go_simp
  have ho4 : w4.drew.ownsRow _ 5 1 v1 n (Lib.byteCells l) := HX4.out.2.2
  have ho4' := ho4
  rw [← HN.out] at ho4'
  have c10 := clone_own _ v1 l w4.drew HL.out ho4'
  rw [HN.out] at c10
  refine Calls.mono c10 ?_
  rintro e w5 ⟨v2, rfl, hown5, hb5⟩
  have hM5 : M < w4.drew.heap.size := hM4
  have b5 : w5.heap[M]? = some (.cells (gcells f s u).toArray 32 (0, 0)) := (hb5.block M hM5).trans HX4.out.1
  have hbw5 : Below w.heap.size w w5 := HX4.out.2.1.drew.trans (hb5.mono HX4.out.2.1.size)
  have c13 := C13.out w5 w4.drew.heap.size v2 hown5 HX4.out.2.1.size hb5.size hbw5
  have C := hid c13
  have H5 := hid (And.intro b5 (And.intro hb5 (And.intro hbw5 ho4)))
  clear c13 c10 hown5 ho4' ho4 hM5 hb5 hbw5
  refine hK.out _ _ (range_box b5) (fun hHeld => ?_)
  clear hK K b5
  refine wpAnyH_ready (rs := [3]) (by kernel_rfl) (by simp) ?_
  refine AllReadyH.cons rfl (fun K hK => ?_) AllReadyH.nil
  go_simp
  refine Calls.mono C.out ?_
  rintro e w6 ⟨v3, rfl, hown6, hfr6⟩
  have b6 := hfr6.keeps H5.out.1 (by decide)
  have h46 := H5.out.2.1.trans hfr6.1
  have hcv1 := conv_own (l := l) (own_eq (own_below H5.out.2.2.2 h46) HN.out.symm rfl)
  have hcv3 := conv_own (l := l ++ T) (own_eq hown6 (by simp [HN.out]) (by simp [Lib.byteCells]))
  have hbw6 : Below w.heap.size w w6 := H5.out.2.2.1.trans (hfr6.1.mono HX4.out.2.1.size)
  have H6 := hid hbw6
  refine hK.out _ _ (range_box b6) (fun hHeld => ?_)
  clear hK K hown6 hfr6 h46 hbw6
  refine wpAnyH_ready (rs := [4]) (by kernel_rfl) (by simp) ?_
  refine AllReadyH.cons rfl (fun K hK => ?_) AllReadyH.nil
  go_simp
  refine hK.out _ _ (range_box b6) (fun hHeld => ?_)
  clear hK K hHeld b6 hr0
  refine wpAnyH_done (by kernel_rfl) ?_ _
  have hll : l.length ≤ 1048576 := HL.out
  go_wp2
  go_ret
  exact ⟨congrArg (fun b => Ending.returned (.bool b)) (app_eq l T), H6.out⟩

theorem law5 (f : Int) (s : List UInt8) (u : Nat) (a : Option Addr) (cap : Nat) (l : List UInt8) (w : World) (hs : s.length = 16) (hu : u < 18446744073709551616) (hcame : Came w a cap l) (htab : Lib.TabBelow Tryd.prog w.heap.size w powName .u64 Lib.pow10Tab) :
    Calls Tryd.prog 5 #[.int .u8 f, .agg (Lib.byteCells s).toArray, .int .u64 (u : Int), .slice a l.length cap] w fun e w' => e = .returned (.bool true) ∧ Below w.heap.size w w' := by
  by_cases h : l.length ≤ 1048576
  · exact law5_short f s u a cap l w hs hu h hcame htab
  · exact law5_long f s u a cap l.length w hs (by omega)
end Go.Proofs.Qxb6614863aDoor
