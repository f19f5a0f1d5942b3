import Derived.Test.Qxb6614863aDoorW3
import Derived.Lib.OthersKept
namespace Go.Proofs.Qxb6614863aDoor
open Go.RowKit Go.Lib

/-- what lies below B stands, and every block that is no row of bytes -/
def Fr (B : Nat) (w w' : World) : Prop := Below B w w' ∧ OthersKept 5 none w w'
theorem Fr.refl (B : Nat) (w : World) : Fr B w w := ⟨Below.refl _ _, OthersKept.refl _ _ _⟩
theorem Fr.trans {B : Nat} {a b c : World} (h : Fr B a b) (k : Fr B b c) : Fr B a c := ⟨h.1.trans k.1, h.2.trans k.2⟩
theorem Fr.alloc {B : Nat} {a w : World} (h : Fr B a w) (hB : B ≤ w.heap.size) (o : Obj) : Fr B a (w.alloc o) := ⟨h.1.alloc hB o, h.2.alloc o⟩
theorem own_kind {w : World} {B : Nat} {v : Value} {n : Nat} {xs : List Value} (h : w.ownsRow B 5 1 v n xs) : ∀ g, v.ownBlock = some g → ∃ c fz, w.heap[g]? = some (.cells c 5 fz) := by
  intro g hg
  rcases h.2 with ⟨rfl, _⟩ | ⟨g', cap, cur, rfl, _, hgg, _⟩
  · simp [Value.ownBlock] at hg
  · simp [Value.ownBlock] at hg
    subst hg
    exact ⟨cur, _, hgg⟩
theorem Fr.grown {B : Nat} {a w w' : World} {v : Value} {n : Nat} {xs : List Value} (h : Fr B a w) (hown : w.ownsRow B 5 1 v n xs) (hg : w.grownBy w' v.ownBlock) (hB : B ≤ w.heap.size) : Fr B a w' :=
  ⟨h.1.grown hg hB (fun k hk => (hown.lt k hk).1), h.2.grown hg (own_kind hown)⟩
/-- a block that is no row of bytes -/
theorem Fr.keeps {B : Nat} {w w' : World} (h : Fr B w w') {k : Nat} {c : Array Value} {t : TypeId} {fz : Nat × Nat} (hk : w.heap[k]? = some (.cells c t fz)) (ht : t ≠ 5) : w'.heap[k]? = some (.cells c t fz) :=
  h.2 k _ hk (by simp) (fun c' fz' e => by cases e; exact ht rfl)
theorem own_apart {w : World} {B k : Nat} {v : Value} {n : Nat} {xs : List Value} (h : w.ownsRow B 5 1 v n xs) {c : Array Value} {t : TypeId} {fz : Nat × Nat} (hk : w.heap[k]? = some (.cells c t fz)) (ht : t ≠ 5) : v.ownBlock ≠ some k := by
  intro e
  obtain ⟨c', fz', h'⟩ := own_kind h k e
  rw [hk] at h'
  cases h'
  exact ht rfl

/-- what appendText has written behind k rounds -/
def gtxt (src : List UInt8) : Nat → List UInt8
  | 0 => []
  | 1 => grp src 0 4
  | 2 => grp src 0 4 ++ [45] ++ grp src 4 2
  | 3 => grp src 0 4 ++ [45] ++ grp src 4 2 ++ [45] ++ grp src 6 2
  | 4 => grp src 0 4 ++ [45] ++ grp src 4 2 ++ [45] ++ grp src 6 2 ++ [45] ++ grp src 8 2
  | _ => uuidText src
theorem grp_length {src : List UInt8} {a k : Nat} (h : src.length = 16) (hk : a + k ≤ 16) : (grp src a k).length = 2 * k := by
  unfold grp
  rw [Hx.encode_length, List.length_take, List.length_drop]
  omega

def gtlen : Nat → Nat
  | 0 => 0
  | 1 => 8
  | 2 => 13
  | 3 => 18
  | 4 => 23
  | _ => 36

theorem box_cell {w : World} {b a k : Nat} {src : List UInt8} (hs : src.length = 16) (hk : a + k ≤ 16) (h : w.heap[b]? = some (.cells (Lib.byteCells src).toArray 30 (0, 0))) :
    ∀ i, i < k → w.cell? ⟨b, a + i, none⟩ = some (.int .u8 ((((src.drop a).take k).getD i 0).toNat : Int)) := by
  intro i hi
  rw [cell_of_row w b _ _ 30 (0, 0) h]
  simp [Lib.byteCells, List.getD, hi, show a + i < src.length by omega]

theorem own_eq {w : World} {B n m : Nat} {v : Value} {xs ys : List Value} (h : w.ownsRow B 5 1 v n xs) (e1 : n = m) (e2 : xs = ys) : w.ownsRow B 5 1 v m ys := by subst e1; subst e2; exact h
theorem cellOne2 (w : World) (o : Obj) (v : Value) (t : TypeId) : ∀ j u, [v][j]? = some u → ((w.alloc o).alloc (.cells #[v] t)).cell? ((⟨w.heap.size + 1, 0, none⟩ : Addr).add j) = some u := by
  have := cellOne (w.alloc o) v t
  simpa using this
theorem grp_kept {B n : Nat} {wr w1 : World} {v : Value} {xs : List Value} {c : Array Value} {o : Obj} (hA : (wr.alloc (.cells c 43)).ownsRow B 5 1 v n xs) (hg : ((wr.alloc (.cells c 43)).alloc o).grownBy w1 v.ownBlock) (hB : B ≤ wr.heap.size) : w1.heap[wr.heap.size]? = some (.cells c 43 (0, 0)) :=
  (((Fr.refl B (wr.alloc (.cells c 43))).alloc (by simp; omega) o).grown (hA.alloc o) hg (by simp; omega)).keeps (heap_alloc_new _ _) (by decide)
theorem grp_take {src : List UInt8} {a k : Nat} (h : src.length = 16) (hk : a + k ≤ 16) : ((src.drop a).take k).length = k := by
  rw [List.length_take, List.length_drop]
  omega

set_option maxHeartbeats 1600000 in
/-- (UUID).appendText onto a row that the call owns -/
theorem appendText_own (B n : Nat) (sv : Value) (xs : List Value) (src : List UInt8) (w : World) (hown : w.ownsRow B 5 1 sv n xs) (hBw : B ≤ w.heap.size) (hs : src.length = 16) (hlim : n + 36 ≤ 70368744177664) :
    Calls Tryd.prog 17 #[.agg (Lib.byteCells src).toArray, sv] w fun e w' => ∃ v', e = .returned v' ∧ w'.ownsRow B 5 1 v' (n + 36) (xs ++ Lib.byteCells (uuidText src)) ∧ Fr B w w' := by
  obtain ⟨i0, hi, hz0, hz1, hz2⟩ := info_parts infoByte
  have HO := hid hown
  have HS := hid hs
  clear hown hs
  have ix0 : ∀ w : World, (Instr.index 44 (.agg #[.int .i64 0, .int .i64 4, .int .i64 4, .int .i64 6, .int .i64 6, .int .i64 8, .int .i64 8, .int .i64 10, .int .i64 10, .int .i64 16]) (.int .i64 0)).run Tryd.prog w = .ok (.agg #[.int .i64 0, .int .i64 4]) w := fun _ => by kernel_rfl
  have ix1 : ∀ w : World, (Instr.index 44 (.agg #[.int .i64 0, .int .i64 4, .int .i64 4, .int .i64 6, .int .i64 6, .int .i64 8, .int .i64 8, .int .i64 10, .int .i64 10, .int .i64 16]) (.int .i64 1)).run Tryd.prog w = .ok (.agg #[.int .i64 4, .int .i64 6]) w := fun _ => by kernel_rfl
  have ix2 : ∀ w : World, (Instr.index 44 (.agg #[.int .i64 0, .int .i64 4, .int .i64 4, .int .i64 6, .int .i64 6, .int .i64 8, .int .i64 8, .int .i64 10, .int .i64 10, .int .i64 16]) (.int .i64 2)).run Tryd.prog w = .ok (.agg #[.int .i64 6, .int .i64 8]) w := fun _ => by kernel_rfl
  have ix3 : ∀ w : World, (Instr.index 44 (.agg #[.int .i64 0, .int .i64 4, .int .i64 4, .int .i64 6, .int .i64 6, .int .i64 8, .int .i64 8, .int .i64 10, .int .i64 10, .int .i64 16]) (.int .i64 3)).run Tryd.prog w = .ok (.agg #[.int .i64 8, .int .i64 10]) w := fun _ => by kernel_rfl
  have ix4 : ∀ w : World, (Instr.index 44 (.agg #[.int .i64 0, .int .i64 4, .int .i64 4, .int .i64 6, .int .i64 6, .int .i64 8, .int .i64 8, .int .i64 10, .int .i64 10, .int .i64 16]) (.int .i64 4)).run Tryd.prog w = .ok (.agg #[.int .i64 10, .int .i64 16]) w := fun _ => by kernel_rfl
  go_enter Tryd.func17, Tryd.ntmps17
  go_wp2
  go_loopw [1, 13] (fun v i wr => ∃ k : Nat, k ≤ 5 ∧ i = .int .i64 k ∧ wr.ownsRow B 5 1 v (n + gtlen k) (xs ++ Lib.byteCells (gtxt src k)) ∧ wr.heap[w.heap.size]? = some (.cells (Lib.byteCells src).toArray 30 (0, 0)) ∧ Fr B w wr)
    (fun _ i _ => 5 - (RowKit.intOf i).toNat)
  case atStart =>
    refine ⟨0, by omega, rfl, ?_, heap_alloc_new _ _, (Fr.refl _ _).alloc hBw _⟩
    simpa [gtxt, Lib.byteCells, gtlen] using HO.out.alloc _
  case round =>
    obtain ⟨k, hk, rfl, hown, hblk, hfr⟩ := hrel
    have hsz : w.heap.size + 1 ≤ wr.heap.size := by have := lt_of_block hblk; omega
    rcases (show k = 0 ∨ k = 1 ∨ k = 2 ∨ k = 3 ∨ k = 4 ∨ k = 5 by omega) with rfl | rfl | rfl | rfl | rfl | rfl
    · change wr.ownsRow B 5 1 _ (n + 0) _ at hown
      have hB1 : B ≤ wr.heap.size := by omega
      have hE := appendEncode_own B (n + 0) 4 w.heap.size 0 16 _ _ ((src.drop 0).take 4) (wr.alloc (.cells #[.int .i64 0, .int .i64 4] 43)) (hown.alloc _) (by simp; omega) (by omega) (by omega) (grp_take HS.out (by omega)) (box_cell HS.out (by omega) ((Below.heap_alloc _ _ _ (by omega)).trans hblk)) (own_apart hown hblk (by decide)) (by simp; omega)
      have hf1 : Fr B wr (wr.alloc (.cells #[.int .i64 0, .int .i64 4] 43)) := (Fr.refl _ _).alloc hB1 _
      have hoA := hown.alloc (.cells #[.int .i64 0, .int .i64 4] 43)
      have HE := hid hE
      have HA := hid hoA
      have HF := hid hf1
      have HB := hid hblk
      clear hE hoA hf1 hown hblk
      go_wp2_with (go_at_call 20; refine Calls.mono HE.out ?_; rintro e w2 ⟨v2, rfl, hown2, hgr2⟩; refine Hid.out ?_)
      refine Lib.hid ?_
      have hf2 := HF.out.grown HA.out hgr2 (by simp; omega)
      have HX := hid (And.intro hown2 (And.intro (hf2.keeps HB.out (by decide)) (hfr.trans hf2)))
      clear hown2 hf2 hgr2
      go_wp2
      go_roundw
      case rel => exact ⟨1, by omega, by go_num, own_eq HX.out.1 (by simp [gtlen]) (by simp [gtxt, grp, Lib.byteCells]), HX.out.2⟩
      case measure => simp [RowKit.intOf]
    · change wr.ownsRow B 5 1 _ (n + 8) _ at hown
      have hB1 : B ≤ wr.heap.size := by omega
      have hA := hown.alloc (.cells #[.int .i64 4, .int .i64 6] 43)
      have hblkA := (Below.heap_alloc wr (.cells #[.int .i64 4, .int .i64 6] 43) w.heap.size (by omega)).trans hblk
      have hfA : Fr B wr (wr.alloc (.cells #[.int .i64 4, .int .i64 6] 43)) := (Fr.refl _ _).alloc hB1 _
      have HK := hid (And.intro hblkA hfA)
      have HB := hid hblk
      clear hblkA hfA hown hblk
      go_wp2_with (at_builtin; refine wpList_append_own _ rfl _ _ 27 rfl B 5 i0 (.int .u8 0) 1 1 Tryd.underlying27 hi hz0 hz1 hz2 rfl (by decide) _ _ _ rfl (hA.alloc _) ⟨wr.heap.size + 1, 0, none⟩ 1 1 [.int .u8 45] rfl rfl (cellOne2 _ _ _ _) (by intro u' hu'; simp at hu'; subst hu'; rfl) (by unfold maxLen; omega) (by omega) (by simp; omega) ?_)
      intro v1 w1 hown1 hgrow1 _
      have hf1 : Fr B wr w1 := (HK.out.2.alloc (by simp; omega) _).grown (hA.alloc _) hgrow1 (by simp; omega)
      have hb1 := hf1.keeps HB.out (by decide)
      have hc0 : w1.cell? ⟨wr.heap.size, 0, none⟩ = some (.int .i64 4) := by rw [cell_of_row w1 _ 0 #[.int .i64 4, .int .i64 6] 43 (0, 0) (grp_kept hA hgrow1 (by omega))]; rfl
      have hc1 : w1.cell? ⟨wr.heap.size, 1, none⟩ = some (.int .i64 6) := by rw [cell_of_row w1 _ 1 #[.int .i64 4, .int .i64 6] 43 (0, 0) (grp_kept hA hgrow1 (by omega))]; rfl
      have hsz1 : wr.heap.size ≤ w1.heap.size := hf1.1.size
      have hE := appendEncode_own B (n + 8 + 1) 2 w.heap.size 4 12 v1 _ ((src.drop 4).take 2) w1 hown1 (by omega) (by omega) (by omega) (grp_take HS.out (by omega)) (box_cell HS.out (by omega) hb1) (own_apart hown1 hb1 (by decide)) (by omega)
      have HE := hid hE
      have HW := hid hown1
      have HF := hid hf1
      have HB1 := hid hb1
      clear hE hown1 hf1 hb1 hgrow1 hA
      go_wp2_with (go_at_call 20; refine Calls.mono HE.out ?_; rintro e w2 ⟨v2, rfl, hown2, hgr2⟩; refine Hid.out ?_)
      refine Lib.hid ?_
      have hf2 := (Fr.refl B w1).grown HW.out hgr2 (by omega)
      have HX := hid (And.intro hown2 (And.intro (hf2.keeps HB1.out (by decide)) ((hfr.trans HF.out).trans hf2)))
      clear hown2 hf2 hgr2
      go_wp2
      go_roundw
      case rel => exact ⟨2, by omega, by go_num, own_eq HX.out.1 (by simp [gtlen]) (by simp [gtxt, grp, Lib.byteCells]), HX.out.2⟩
      case measure => simp [RowKit.intOf]
    · change wr.ownsRow B 5 1 _ (n + 13) _ at hown
      have hB1 : B ≤ wr.heap.size := by omega
      have hA := hown.alloc (.cells #[.int .i64 6, .int .i64 8] 43)
      have hblkA := (Below.heap_alloc wr (.cells #[.int .i64 6, .int .i64 8] 43) w.heap.size (by omega)).trans hblk
      have hfA : Fr B wr (wr.alloc (.cells #[.int .i64 6, .int .i64 8] 43)) := (Fr.refl _ _).alloc hB1 _
      have HK := hid (And.intro hblkA hfA)
      have HB := hid hblk
      clear hblkA hfA hown hblk
      go_wp2_with (at_builtin; refine wpList_append_own _ rfl _ _ 27 rfl B 5 i0 (.int .u8 0) 1 1 Tryd.underlying27 hi hz0 hz1 hz2 rfl (by decide) _ _ _ rfl (hA.alloc _) ⟨wr.heap.size + 1, 0, none⟩ 1 1 [.int .u8 45] rfl rfl (cellOne2 _ _ _ _) (by intro u' hu'; simp at hu'; subst hu'; rfl) (by unfold maxLen; omega) (by omega) (by simp; omega) ?_)
      intro v1 w1 hown1 hgrow1 _
      have hf1 : Fr B wr w1 := (HK.out.2.alloc (by simp; omega) _).grown (hA.alloc _) hgrow1 (by simp; omega)
      have hb1 := hf1.keeps HB.out (by decide)
      have hc0 : w1.cell? ⟨wr.heap.size, 0, none⟩ = some (.int .i64 6) := by rw [cell_of_row w1 _ 0 #[.int .i64 6, .int .i64 8] 43 (0, 0) (grp_kept hA hgrow1 (by omega))]; rfl
      have hc1 : w1.cell? ⟨wr.heap.size, 1, none⟩ = some (.int .i64 8) := by rw [cell_of_row w1 _ 1 #[.int .i64 6, .int .i64 8] 43 (0, 0) (grp_kept hA hgrow1 (by omega))]; rfl
      have hsz1 : wr.heap.size ≤ w1.heap.size := hf1.1.size
      have hE := appendEncode_own B (n + 13 + 1) 2 w.heap.size 6 10 v1 _ ((src.drop 6).take 2) w1 hown1 (by omega) (by omega) (by omega) (grp_take HS.out (by omega)) (box_cell HS.out (by omega) hb1) (own_apart hown1 hb1 (by decide)) (by omega)
      have HE := hid hE
      have HW := hid hown1
      have HF := hid hf1
      have HB1 := hid hb1
      clear hE hown1 hf1 hb1 hgrow1 hA
      go_wp2_with (go_at_call 20; refine Calls.mono HE.out ?_; rintro e w2 ⟨v2, rfl, hown2, hgr2⟩; refine Hid.out ?_)
      refine Lib.hid ?_
      have hf2 := (Fr.refl B w1).grown HW.out hgr2 (by omega)
      have HX := hid (And.intro hown2 (And.intro (hf2.keeps HB1.out (by decide)) ((hfr.trans HF.out).trans hf2)))
      clear hown2 hf2 hgr2
      go_wp2
      go_roundw
      case rel => exact ⟨3, by omega, by go_num, own_eq HX.out.1 (by simp [gtlen]) (by simp [gtxt, grp, Lib.byteCells]), HX.out.2⟩
      case measure => simp [RowKit.intOf]
    · change wr.ownsRow B 5 1 _ (n + 18) _ at hown
      have hB1 : B ≤ wr.heap.size := by omega
      have hA := hown.alloc (.cells #[.int .i64 8, .int .i64 10] 43)
      have hblkA := (Below.heap_alloc wr (.cells #[.int .i64 8, .int .i64 10] 43) w.heap.size (by omega)).trans hblk
      have hfA : Fr B wr (wr.alloc (.cells #[.int .i64 8, .int .i64 10] 43)) := (Fr.refl _ _).alloc hB1 _
      have HK := hid (And.intro hblkA hfA)
      have HB := hid hblk
      clear hblkA hfA hown hblk
      go_wp2_with (at_builtin; refine wpList_append_own _ rfl _ _ 27 rfl B 5 i0 (.int .u8 0) 1 1 Tryd.underlying27 hi hz0 hz1 hz2 rfl (by decide) _ _ _ rfl (hA.alloc _) ⟨wr.heap.size + 1, 0, none⟩ 1 1 [.int .u8 45] rfl rfl (cellOne2 _ _ _ _) (by intro u' hu'; simp at hu'; subst hu'; rfl) (by unfold maxLen; omega) (by omega) (by simp; omega) ?_)
      intro v1 w1 hown1 hgrow1 _
      have hf1 : Fr B wr w1 := (HK.out.2.alloc (by simp; omega) _).grown (hA.alloc _) hgrow1 (by simp; omega)
      have hb1 := hf1.keeps HB.out (by decide)
      have hc0 : w1.cell? ⟨wr.heap.size, 0, none⟩ = some (.int .i64 8) := by rw [cell_of_row w1 _ 0 #[.int .i64 8, .int .i64 10] 43 (0, 0) (grp_kept hA hgrow1 (by omega))]; rfl
      have hc1 : w1.cell? ⟨wr.heap.size, 1, none⟩ = some (.int .i64 10) := by rw [cell_of_row w1 _ 1 #[.int .i64 8, .int .i64 10] 43 (0, 0) (grp_kept hA hgrow1 (by omega))]; rfl
      have hsz1 : wr.heap.size ≤ w1.heap.size := hf1.1.size
      have hE := appendEncode_own B (n + 18 + 1) 2 w.heap.size 8 8 v1 _ ((src.drop 8).take 2) w1 hown1 (by omega) (by omega) (by omega) (grp_take HS.out (by omega)) (box_cell HS.out (by omega) hb1) (own_apart hown1 hb1 (by decide)) (by omega)
      have HE := hid hE
      have HW := hid hown1
      have HF := hid hf1
      have HB1 := hid hb1
      clear hE hown1 hf1 hb1 hgrow1 hA
      go_wp2_with (go_at_call 20; refine Calls.mono HE.out ?_; rintro e w2 ⟨v2, rfl, hown2, hgr2⟩; refine Hid.out ?_)
      refine Lib.hid ?_
      have hf2 := (Fr.refl B w1).grown HW.out hgr2 (by omega)
      have HX := hid (And.intro hown2 (And.intro (hf2.keeps HB1.out (by decide)) ((hfr.trans HF.out).trans hf2)))
      clear hown2 hf2 hgr2
      go_wp2
      go_roundw
      case rel => exact ⟨4, by omega, by go_num, own_eq HX.out.1 (by simp [gtlen]) (by simp [gtxt, grp, Lib.byteCells]), HX.out.2⟩
      case measure => simp [RowKit.intOf]
    · change wr.ownsRow B 5 1 _ (n + 23) _ at hown
      have hB1 : B ≤ wr.heap.size := by omega
      have hA := hown.alloc (.cells #[.int .i64 10, .int .i64 16] 43)
      have hblkA := (Below.heap_alloc wr (.cells #[.int .i64 10, .int .i64 16] 43) w.heap.size (by omega)).trans hblk
      have hfA : Fr B wr (wr.alloc (.cells #[.int .i64 10, .int .i64 16] 43)) := (Fr.refl _ _).alloc hB1 _
      have HK := hid (And.intro hblkA hfA)
      have HB := hid hblk
      clear hblkA hfA hown hblk
      go_wp2_with (at_builtin; refine wpList_append_own _ rfl _ _ 27 rfl B 5 i0 (.int .u8 0) 1 1 Tryd.underlying27 hi hz0 hz1 hz2 rfl (by decide) _ _ _ rfl (hA.alloc _) ⟨wr.heap.size + 1, 0, none⟩ 1 1 [.int .u8 45] rfl rfl (cellOne2 _ _ _ _) (by intro u' hu'; simp at hu'; subst hu'; rfl) (by unfold maxLen; omega) (by omega) (by simp; omega) ?_)
      intro v1 w1 hown1 hgrow1 _
      have hf1 : Fr B wr w1 := (HK.out.2.alloc (by simp; omega) _).grown (hA.alloc _) hgrow1 (by simp; omega)
      have hb1 := hf1.keeps HB.out (by decide)
      have hc0 : w1.cell? ⟨wr.heap.size, 0, none⟩ = some (.int .i64 10) := by rw [cell_of_row w1 _ 0 #[.int .i64 10, .int .i64 16] 43 (0, 0) (grp_kept hA hgrow1 (by omega))]; rfl
      have hc1 : w1.cell? ⟨wr.heap.size, 1, none⟩ = some (.int .i64 16) := by rw [cell_of_row w1 _ 1 #[.int .i64 10, .int .i64 16] 43 (0, 0) (grp_kept hA hgrow1 (by omega))]; rfl
      have hsz1 : wr.heap.size ≤ w1.heap.size := hf1.1.size
      have hE := appendEncode_own B (n + 23 + 1) 6 w.heap.size 10 6 v1 _ ((src.drop 10).take 6) w1 hown1 (by omega) (by omega) (by omega) (grp_take HS.out (by omega)) (box_cell HS.out (by omega) hb1) (own_apart hown1 hb1 (by decide)) (by omega)
      have HE := hid hE
      have HW := hid hown1
      have HF := hid hf1
      have HB1 := hid hb1
      clear hE hown1 hf1 hb1 hgrow1 hA
      go_wp2_with (go_at_call 20; refine Calls.mono HE.out ?_; rintro e w2 ⟨v2, rfl, hown2, hgr2⟩; refine Hid.out ?_)
      refine Lib.hid ?_
      have hf2 := (Fr.refl B w1).grown HW.out hgr2 (by omega)
      have HX := hid (And.intro hown2 (And.intro (hf2.keeps HB1.out (by decide)) ((hfr.trans HF.out).trans hf2)))
      clear hown2 hf2 hgr2
      go_wp2
      go_roundw
      case rel => exact ⟨5, by omega, by go_num, own_eq HX.out.1 (by simp [gtlen]) (by simp [gtxt, uuidText, grp, Lib.byteCells]), HX.out.2⟩
      case measure => simp [RowKit.intOf]
    · change wr.ownsRow B 5 1 _ (n + 36) _ at hown
      go_wp2
      go_ret
      exact ⟨_, rfl, hown, hfr⟩
end Go.Proofs.Qxb6614863aDoor
