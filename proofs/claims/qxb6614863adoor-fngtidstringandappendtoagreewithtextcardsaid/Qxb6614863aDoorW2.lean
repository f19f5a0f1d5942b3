import Derived.Test.Qxb6614863aDoorW1
import Derived.Lib.Hide
namespace Go.Proofs.Qxb6614863aDoor
open Go.RowKit Go.Lib

theorem infoByte : (Tryd.prog.info? 5).map (fun i => (i.zero, i.size, i.bytes)) = some (some (.int .u8 0), 1, 1) := by kernel_rfl

theorem hexDigit_int (x : Int) (w : World) (h0 : 0 ≤ x) (h : x < 16) :
    Calls Tryd.prog 19 #[.int .u8 x] w fun e w' => e = .returned (.int .u8 ((Hx.digit x.toNat).toNat : Int)) ∧ w = w' := by
  obtain ⟨v, rfl⟩ := Int.eq_ofNat_of_zero_le h0
  exact (hexDigit_any v w (by omega)).mono fun e w' h => ⟨h.1, h.2.symm⟩

theorem below_push {base n : Nat} {e : TypeId} {v : Value} {xs : List Value} {wr w1 : World} {o : Obj} (hown : wr.ownsRow base e 1 v n xs) (hb : base ≤ wr.heap.size) (hg : (wr.alloc o).grownBy w1 v.ownBlock) : Below base wr w1 :=
  ((Below.refl _ _).alloc hb o).grown hg (by simp; omega) (fun k hk => (hown.lt k hk).1)

theorem cellOne (w : World) (v : Value) (t : TypeId) : ∀ j u, [v][j]? = some u → (w.alloc (.cells #[v] t)).cell? ((⟨w.heap.size, 0, none⟩ : Addr).add j) = some u := by
  intro j u hj
  match j, hj with
  | 0, hj => simp at hj; subst hj; simp [Addr.add]

theorem made_own (w : World) (o : Obj) (cur : Array Value) (cap : Nat) (hs : cur.size = cap) (hm : cap ≤ maxLen) :
    ((w.alloc o).alloc (.cells cur 5)).ownsRow (w.heap.size + 1) 5 1 (.slice (some ⟨w.heap.size + 1, 0, none⟩) 0 cap) 0 [] := by
  have := World.ownsRow_made (base := w.heap.size + 1) (e := 5) (size := 1) (w.alloc o) cur cap (by simp) hm (by omega)
  simpa using this

theorem utxt_step (src : List UInt8) (k : Nat) : byteCells (utxt src (k + 1)) = byteCells (utxt src k) ++ byteCells (dash k) ++ [.int .u8 ((Hx.digit ((src.getD k 0).toNat / 16)).toNat : Int)] ++ [.int .u8 ((Hx.digit ((src.getD k 0).toNat % 16)).toNat : Int)] := by
  simp [utxt, byteCells]

set_option maxHeartbeats 1600000 in
theorem uuidText_any (src : List UInt8) (w : World) (hs : src.length = 16) :
    Calls Tryd.prog 15 #[.agg (byteCells src).toArray] w fun e w' => e = .returned (.string ⟨(uuidText src).toArray⟩) ∧ Below w.heap.size w w' := by
  obtain ⟨i0, hi, hz0, hz1, hz2⟩ := info_parts infoByte
  have hmk : ∀ w : World, (Instr.makeSlice 27 (.int .i64 0) (.int .i64 36)).run Tryd.prog w = .ok (.slice (some ⟨w.heap.size, 0, none⟩) 0 36) (w.alloc (.cells (Array.replicate 36 (.int .u8 0)) 5)) := fun _ => by kernel_rfl
  have HS : Hid (src.length = 16) := hs
  clear hs
  go_enter Tryd.func15, Tryd.ntmps15
  go_wp2
  go_loopw [3, 4] (fun v i wr => ∃ k : Nat, k ≤ 16 ∧ i = .int .i64 k ∧ wr.ownsRow (w.heap.size + 1) 5 1 v (utxt src k).length (byteCells (utxt src k)) ∧ wr.heap[w.heap.size]? = some (.cells (byteCells src).toArray 25 (0, 0)) ∧ Below w.heap.size w wr)
    (fun _ i _ => 16 - (intOf i).toNat)
  case atStart =>
    exact ⟨0, by omega, rfl, made_own _ _ _ 36 (by simp) (by decide), heap_alloc2_old _ _ _, ((Below.refl _ _).alloc (Nat.le_refl _) _).alloc (by simp) _⟩
  case round =>
    obtain ⟨k, hk, rfl, hown, hblk, hnx⟩ := hrel
    have hsz : w.heap.size + 1 ≤ wr.heap.size := by have := lt_of_block hblk; omega
    by_cases hlt : k < 16
    · have hcell : wr.cell? ⟨w.heap.size, k, none⟩ = some (.int .u8 ((src.getD k 0).toNat : Int)) := by
        rw [cell_of_row wr _ _ _ 25 (0, 0) hblk]
        have := HS.out
        simp [byteCells, List.getD, show k < src.length by omega]
      have HT := hid (utxt_step src k)
      obtain ⟨b, hb⟩ : ∃ b : UInt8, b = src.getD k 0 := ⟨_, rfl⟩
      rw [← hb] at hcell HT
      have hb8 := b.toNat_lt
      have hlen := utxt_length src k
      generalize hL : (utxt src k).length = L at hown hlen
      have HL := hid hL
      clear hL hb
      rcases (show k = 4 ∨ k = 6 ∨ k = 8 ∨ k = 10 ∨ ¬ (k = 4 ∨ k = 6 ∨ k = 8 ∨ k = 10) by omega) with hd | hd | hd | hd | hd
      · -- byte 4
        have d4 : ((k : Int) == 4) = true := by simp; omega
        have HD := hid hd
        clear hd
        go_wp2_with (at_builtin; refine wpList_append_own _ rfl _ _ 27 rfl (w.heap.size + 1) 5 i0 (.int .u8 0) 1 1 Tryd.underlying27 hi hz0 hz1 hz2 rfl (by decide) _ _ _ rfl (hown.alloc _) ⟨wr.heap.size, 0, none⟩ 1 1 [.int .u8 45] rfl rfl (cellOne _ _ _) (by intro u' hu'; simp at hu'; subst hu'; rfl) (by unfold maxLen; omega) (by omega) (by simp; omega) ?_)
        intro v1 w1 hown1 hgrow1 _
        have hb1 := below_push hown hsz hgrow1
        have hcell1 := (hb1.cell (p := ⟨w.heap.size, k, none⟩) (by simp)).trans hcell
        have hsz1 : w.heap.size + 1 ≤ w1.heap.size := by have := hb1.size; omega
        clear hgrow1
        go_wp2_with (go_at_call 19; refine (hexDigit_int _ _ (by omega) (by omega)).mono ?_; rintro e w' ⟨rfl, rfl⟩; refine Hid.out ?_)
        refine Lib.hid ?_
        go_wp2_with (at_builtin; refine wpList_append_own _ rfl _ _ 27 rfl (w.heap.size + 1) 5 i0 (.int .u8 0) 1 1 Tryd.underlying27 hi hz0 hz1 hz2 rfl (by decide) _ _ _ rfl (hown1.alloc _) ⟨w1.heap.size, 0, none⟩ 1 1 [.int .u8 ((Hx.digit (b.toNat / 16)).toNat : Int)] rfl rfl (cellOne _ _ _) (by intro u' hu'; simp at hu'; subst hu'; rfl) (by unfold maxLen; omega) (by omega) (by simp; omega) ?_)
        intro v2 w2 hown2 hgrow2 _
        have hb2 := below_push hown1 hsz1 hgrow2
        have hcell2 := (hb2.cell (p := ⟨w.heap.size, k, none⟩) (by simp)).trans hcell1
        have hsz2 : w.heap.size + 1 ≤ w2.heap.size := by have := hb2.size; omega
        clear hgrow2
        go_wp2_with (go_at_call 19; refine (hexDigit_int _ _ (by omega) (by omega)).mono ?_; rintro e w' ⟨rfl, rfl⟩; refine Hid.out ?_)
        refine Lib.hid ?_
        go_wp2_with (at_builtin; refine wpList_append_own _ rfl _ _ 27 rfl (w.heap.size + 1) 5 i0 (.int .u8 0) 1 1 Tryd.underlying27 hi hz0 hz1 hz2 rfl (by decide) _ _ _ rfl (hown2.alloc _) ⟨w2.heap.size, 0, none⟩ 1 1 [.int .u8 ((Hx.digit (b.toNat % 16)).toNat : Int)] rfl rfl (cellOne _ _ _) (by intro u' hu'; simp at hu'; subst hu'; rfl) (by unfold maxLen; omega) (by omega) (by simp; omega) ?_)
        intro v3 w3 hown3 hgrow3 _
        have hb3 := below_push hown2 hsz2 hgrow3
        have hcell3 := (hb3.cell (p := ⟨w.heap.size, k, none⟩) (by simp)).trans hcell2
        have hsz3 : w.heap.size + 1 ≤ w3.heap.size := by have := hb3.size; omega
        clear hgrow3
        go_wp2
        go_roundw
        case rel =>
          refine ⟨k + 1, by omega, by go_num, ?_, ?_, ?_⟩
          · rw [HT.out, show (utxt src (k + 1)).length = L + 1 + 1 + 1 by rw [← HL.out]; simp [utxt, dash, HD.out]]
            simpa [dash, byteCells, HD.out] using hown3
          · rw [hb3.block _ (by omega), hb2.block _ (by omega), hb1.block _ (by omega)]; exact hblk
          · exact hnx.trans (((hb1.trans hb2).trans hb3).mono (by omega))
        case measure => simp [intOf]; omega
      · -- byte 6
        have d4 : ((k : Int) == 4) = false := by simp; omega
        have d6 : ((k : Int) == 6) = true := by simp; omega
        have HD := hid hd
        clear hd
        go_wp2_with (at_builtin; refine wpList_append_own _ rfl _ _ 27 rfl (w.heap.size + 1) 5 i0 (.int .u8 0) 1 1 Tryd.underlying27 hi hz0 hz1 hz2 rfl (by decide) _ _ _ rfl (hown.alloc _) ⟨wr.heap.size, 0, none⟩ 1 1 [.int .u8 45] rfl rfl (cellOne _ _ _) (by intro u' hu'; simp at hu'; subst hu'; rfl) (by unfold maxLen; omega) (by omega) (by simp; omega) ?_)
        intro v1 w1 hown1 hgrow1 _
        have hb1 := below_push hown hsz hgrow1
        have hcell1 := (hb1.cell (p := ⟨w.heap.size, k, none⟩) (by simp)).trans hcell
        have hsz1 : w.heap.size + 1 ≤ w1.heap.size := by have := hb1.size; omega
        clear hgrow1
        go_wp2_with (go_at_call 19; refine (hexDigit_int _ _ (by omega) (by omega)).mono ?_; rintro e w' ⟨rfl, rfl⟩; refine Hid.out ?_)
        refine Lib.hid ?_
        go_wp2_with (at_builtin; refine wpList_append_own _ rfl _ _ 27 rfl (w.heap.size + 1) 5 i0 (.int .u8 0) 1 1 Tryd.underlying27 hi hz0 hz1 hz2 rfl (by decide) _ _ _ rfl (hown1.alloc _) ⟨w1.heap.size, 0, none⟩ 1 1 [.int .u8 ((Hx.digit (b.toNat / 16)).toNat : Int)] rfl rfl (cellOne _ _ _) (by intro u' hu'; simp at hu'; subst hu'; rfl) (by unfold maxLen; omega) (by omega) (by simp; omega) ?_)
        intro v2 w2 hown2 hgrow2 _
        have hb2 := below_push hown1 hsz1 hgrow2
        have hcell2 := (hb2.cell (p := ⟨w.heap.size, k, none⟩) (by simp)).trans hcell1
        have hsz2 : w.heap.size + 1 ≤ w2.heap.size := by have := hb2.size; omega
        clear hgrow2
        go_wp2_with (go_at_call 19; refine (hexDigit_int _ _ (by omega) (by omega)).mono ?_; rintro e w' ⟨rfl, rfl⟩; refine Hid.out ?_)
        refine Lib.hid ?_
        go_wp2_with (at_builtin; refine wpList_append_own _ rfl _ _ 27 rfl (w.heap.size + 1) 5 i0 (.int .u8 0) 1 1 Tryd.underlying27 hi hz0 hz1 hz2 rfl (by decide) _ _ _ rfl (hown2.alloc _) ⟨w2.heap.size, 0, none⟩ 1 1 [.int .u8 ((Hx.digit (b.toNat % 16)).toNat : Int)] rfl rfl (cellOne _ _ _) (by intro u' hu'; simp at hu'; subst hu'; rfl) (by unfold maxLen; omega) (by omega) (by simp; omega) ?_)
        intro v3 w3 hown3 hgrow3 _
        have hb3 := below_push hown2 hsz2 hgrow3
        have hcell3 := (hb3.cell (p := ⟨w.heap.size, k, none⟩) (by simp)).trans hcell2
        have hsz3 : w.heap.size + 1 ≤ w3.heap.size := by have := hb3.size; omega
        clear hgrow3
        go_wp2
        go_roundw
        case rel =>
          refine ⟨k + 1, by omega, by go_num, ?_, ?_, ?_⟩
          · rw [HT.out, show (utxt src (k + 1)).length = L + 1 + 1 + 1 by rw [← HL.out]; simp [utxt, dash, HD.out]]
            simpa [dash, byteCells, HD.out] using hown3
          · rw [hb3.block _ (by omega), hb2.block _ (by omega), hb1.block _ (by omega)]; exact hblk
          · exact hnx.trans (((hb1.trans hb2).trans hb3).mono (by omega))
        case measure => simp [intOf]; omega
      · -- byte 8
        have d4 : ((k : Int) == 4) = false := by simp; omega
        have d6 : ((k : Int) == 6) = false := by simp; omega
        have d8 : ((k : Int) == 8) = true := by simp; omega
        have HD := hid hd
        clear hd
        go_wp2_with (at_builtin; refine wpList_append_own _ rfl _ _ 27 rfl (w.heap.size + 1) 5 i0 (.int .u8 0) 1 1 Tryd.underlying27 hi hz0 hz1 hz2 rfl (by decide) _ _ _ rfl (hown.alloc _) ⟨wr.heap.size, 0, none⟩ 1 1 [.int .u8 45] rfl rfl (cellOne _ _ _) (by intro u' hu'; simp at hu'; subst hu'; rfl) (by unfold maxLen; omega) (by omega) (by simp; omega) ?_)
        intro v1 w1 hown1 hgrow1 _
        have hb1 := below_push hown hsz hgrow1
        have hcell1 := (hb1.cell (p := ⟨w.heap.size, k, none⟩) (by simp)).trans hcell
        have hsz1 : w.heap.size + 1 ≤ w1.heap.size := by have := hb1.size; omega
        clear hgrow1
        go_wp2_with (go_at_call 19; refine (hexDigit_int _ _ (by omega) (by omega)).mono ?_; rintro e w' ⟨rfl, rfl⟩; refine Hid.out ?_)
        refine Lib.hid ?_
        go_wp2_with (at_builtin; refine wpList_append_own _ rfl _ _ 27 rfl (w.heap.size + 1) 5 i0 (.int .u8 0) 1 1 Tryd.underlying27 hi hz0 hz1 hz2 rfl (by decide) _ _ _ rfl (hown1.alloc _) ⟨w1.heap.size, 0, none⟩ 1 1 [.int .u8 ((Hx.digit (b.toNat / 16)).toNat : Int)] rfl rfl (cellOne _ _ _) (by intro u' hu'; simp at hu'; subst hu'; rfl) (by unfold maxLen; omega) (by omega) (by simp; omega) ?_)
        intro v2 w2 hown2 hgrow2 _
        have hb2 := below_push hown1 hsz1 hgrow2
        have hcell2 := (hb2.cell (p := ⟨w.heap.size, k, none⟩) (by simp)).trans hcell1
        have hsz2 : w.heap.size + 1 ≤ w2.heap.size := by have := hb2.size; omega
        clear hgrow2
        go_wp2_with (go_at_call 19; refine (hexDigit_int _ _ (by omega) (by omega)).mono ?_; rintro e w' ⟨rfl, rfl⟩; refine Hid.out ?_)
        refine Lib.hid ?_
        go_wp2_with (at_builtin; refine wpList_append_own _ rfl _ _ 27 rfl (w.heap.size + 1) 5 i0 (.int .u8 0) 1 1 Tryd.underlying27 hi hz0 hz1 hz2 rfl (by decide) _ _ _ rfl (hown2.alloc _) ⟨w2.heap.size, 0, none⟩ 1 1 [.int .u8 ((Hx.digit (b.toNat % 16)).toNat : Int)] rfl rfl (cellOne _ _ _) (by intro u' hu'; simp at hu'; subst hu'; rfl) (by unfold maxLen; omega) (by omega) (by simp; omega) ?_)
        intro v3 w3 hown3 hgrow3 _
        have hb3 := below_push hown2 hsz2 hgrow3
        have hcell3 := (hb3.cell (p := ⟨w.heap.size, k, none⟩) (by simp)).trans hcell2
        have hsz3 : w.heap.size + 1 ≤ w3.heap.size := by have := hb3.size; omega
        clear hgrow3
        go_wp2
        go_roundw
        case rel =>
          refine ⟨k + 1, by omega, by go_num, ?_, ?_, ?_⟩
          · rw [HT.out, show (utxt src (k + 1)).length = L + 1 + 1 + 1 by rw [← HL.out]; simp [utxt, dash, HD.out]]
            simpa [dash, byteCells, HD.out] using hown3
          · rw [hb3.block _ (by omega), hb2.block _ (by omega), hb1.block _ (by omega)]; exact hblk
          · exact hnx.trans (((hb1.trans hb2).trans hb3).mono (by omega))
        case measure => simp [intOf]; omega
      · -- byte 10
        have d4 : ((k : Int) == 4) = false := by simp; omega
        have d6 : ((k : Int) == 6) = false := by simp; omega
        have d8 : ((k : Int) == 8) = false := by simp; omega
        have d10 : ((k : Int) == 10) = true := by simp; omega
        have HD := hid hd
        clear hd
        go_wp2_with (at_builtin; refine wpList_append_own _ rfl _ _ 27 rfl (w.heap.size + 1) 5 i0 (.int .u8 0) 1 1 Tryd.underlying27 hi hz0 hz1 hz2 rfl (by decide) _ _ _ rfl (hown.alloc _) ⟨wr.heap.size, 0, none⟩ 1 1 [.int .u8 45] rfl rfl (cellOne _ _ _) (by intro u' hu'; simp at hu'; subst hu'; rfl) (by unfold maxLen; omega) (by omega) (by simp; omega) ?_)
        intro v1 w1 hown1 hgrow1 _
        have hb1 := below_push hown hsz hgrow1
        have hcell1 := (hb1.cell (p := ⟨w.heap.size, k, none⟩) (by simp)).trans hcell
        have hsz1 : w.heap.size + 1 ≤ w1.heap.size := by have := hb1.size; omega
        clear hgrow1
        go_wp2_with (go_at_call 19; refine (hexDigit_int _ _ (by omega) (by omega)).mono ?_; rintro e w' ⟨rfl, rfl⟩; refine Hid.out ?_)
        refine Lib.hid ?_
        go_wp2_with (at_builtin; refine wpList_append_own _ rfl _ _ 27 rfl (w.heap.size + 1) 5 i0 (.int .u8 0) 1 1 Tryd.underlying27 hi hz0 hz1 hz2 rfl (by decide) _ _ _ rfl (hown1.alloc _) ⟨w1.heap.size, 0, none⟩ 1 1 [.int .u8 ((Hx.digit (b.toNat / 16)).toNat : Int)] rfl rfl (cellOne _ _ _) (by intro u' hu'; simp at hu'; subst hu'; rfl) (by unfold maxLen; omega) (by omega) (by simp; omega) ?_)
        intro v2 w2 hown2 hgrow2 _
        have hb2 := below_push hown1 hsz1 hgrow2
        have hcell2 := (hb2.cell (p := ⟨w.heap.size, k, none⟩) (by simp)).trans hcell1
        have hsz2 : w.heap.size + 1 ≤ w2.heap.size := by have := hb2.size; omega
        clear hgrow2
        go_wp2_with (go_at_call 19; refine (hexDigit_int _ _ (by omega) (by omega)).mono ?_; rintro e w' ⟨rfl, rfl⟩; refine Hid.out ?_)
        refine Lib.hid ?_
        go_wp2_with (at_builtin; refine wpList_append_own _ rfl _ _ 27 rfl (w.heap.size + 1) 5 i0 (.int .u8 0) 1 1 Tryd.underlying27 hi hz0 hz1 hz2 rfl (by decide) _ _ _ rfl (hown2.alloc _) ⟨w2.heap.size, 0, none⟩ 1 1 [.int .u8 ((Hx.digit (b.toNat % 16)).toNat : Int)] rfl rfl (cellOne _ _ _) (by intro u' hu'; simp at hu'; subst hu'; rfl) (by unfold maxLen; omega) (by omega) (by simp; omega) ?_)
        intro v3 w3 hown3 hgrow3 _
        have hb3 := below_push hown2 hsz2 hgrow3
        have hcell3 := (hb3.cell (p := ⟨w.heap.size, k, none⟩) (by simp)).trans hcell2
        have hsz3 : w.heap.size + 1 ≤ w3.heap.size := by have := hb3.size; omega
        clear hgrow3
        go_wp2
        go_roundw
        case rel =>
          refine ⟨k + 1, by omega, by go_num, ?_, ?_, ?_⟩
          · rw [HT.out, show (utxt src (k + 1)).length = L + 1 + 1 + 1 by rw [← HL.out]; simp [utxt, dash, HD.out]]
            simpa [dash, byteCells, HD.out] using hown3
          · rw [hb3.block _ (by omega), hb2.block _ (by omega), hb1.block _ (by omega)]; exact hblk
          · exact hnx.trans (((hb1.trans hb2).trans hb3).mono (by omega))
        case measure => simp [intOf]; omega
      · have d4 : ((k : Int) == 4) = false := by simp; omega
        have d6 : ((k : Int) == 6) = false := by simp; omega
        have d8 : ((k : Int) == 8) = false := by simp; omega
        have d10 : ((k : Int) == 10) = false := by simp; omega
        have HD := hid hd
        clear hd
        go_wp2_with (go_at_call 19; refine (hexDigit_int _ _ (by omega) (by omega)).mono ?_; rintro e w' ⟨rfl, rfl⟩; refine Hid.out ?_)
        refine Lib.hid ?_
        go_wp2_with (at_builtin; refine wpList_append_own _ rfl _ _ 27 rfl (w.heap.size + 1) 5 i0 (.int .u8 0) 1 1 Tryd.underlying27 hi hz0 hz1 hz2 rfl (by decide) _ _ _ rfl (hown.alloc _) ⟨wr.heap.size, 0, none⟩ 1 1 [.int .u8 ((Hx.digit (b.toNat / 16)).toNat : Int)] rfl rfl (cellOne _ _ _) (by intro u' hu'; simp at hu'; subst hu'; rfl) (by unfold maxLen; omega) (by omega) (by simp; omega) ?_)
        intro v1 w1 hown1 hgrow1 _
        have hb1 := below_push hown hsz hgrow1
        have hcell1 := (hb1.cell (p := ⟨w.heap.size, k, none⟩) (by simp)).trans hcell
        have hsz1 : w.heap.size + 1 ≤ w1.heap.size := by have := hb1.size; omega
        clear hgrow1
        go_wp2_with (go_at_call 19; refine (hexDigit_int _ _ (by omega) (by omega)).mono ?_; rintro e w' ⟨rfl, rfl⟩; refine Hid.out ?_)
        refine Lib.hid ?_
        go_wp2_with (at_builtin; refine wpList_append_own _ rfl _ _ 27 rfl (w.heap.size + 1) 5 i0 (.int .u8 0) 1 1 Tryd.underlying27 hi hz0 hz1 hz2 rfl (by decide) _ _ _ rfl (hown1.alloc _) ⟨w1.heap.size, 0, none⟩ 1 1 [.int .u8 ((Hx.digit (b.toNat % 16)).toNat : Int)] rfl rfl (cellOne _ _ _) (by intro u' hu'; simp at hu'; subst hu'; rfl) (by unfold maxLen; omega) (by omega) (by simp; omega) ?_)
        intro v2 w2 hown2 hgrow2 _
        have hb2 := below_push hown1 hsz1 hgrow2
        have hcell2 := (hb2.cell (p := ⟨w.heap.size, k, none⟩) (by simp)).trans hcell1
        have hsz2 : w.heap.size + 1 ≤ w2.heap.size := by have := hb2.size; omega
        clear hgrow2
        go_wp2
        go_roundw
        case rel =>
          refine ⟨k + 1, by omega, by go_num, ?_, ?_, ?_⟩
          · rw [HT.out, show (utxt src (k + 1)).length = L + 1 + 1 by rw [← HL.out]; simp [utxt, dash, HD.out]]
            simpa [dash, byteCells, HD.out] using hown2
          · rw [hb2.block _ (by omega), hb1.block _ (by omega)]; exact hblk
          · exact hnx.trans ((hb1.trans hb2).mono (by omega))
        case measure => simp [intOf]; omega
    · obtain rfl : k = 16 := by omega
      rw [utxt_whole HS.out] at hown
      have hU := uuidText_length HS.out
      rcases hown.2 with ⟨-, h0⟩ | ⟨g, cap, cur, rfl, -, -, -, -, -, -⟩
      · omega
      · have hcv := run_convert_bytes_back (P := Tryd.prog) wr 27 9 5 ⟨g, 0, none⟩ cap (uuidText src) Tryd.underlying27 Tryd.underlying5 Tryd.underlying9 (fun j hj => hown.cells (g := g) rfl j _ (by simp [byteCells, hj]))
        clear hown hblk hU
        go_wp2
        go_ret
        exact ⟨rfl, hnx⟩
end Go.Proofs.Qxb6614863aDoor
