import Derived.Test.Qxb6615722aDoorPoint
import Derived.Deep.RegionHeld3
namespace Go.Proofs.Qxb6615722aDoor
open Go.RowKit

theorem Scales.below {w w' : World} {B : Nat} (h : Scales w) (hb : Below B w w') (hB : 0 < B) : Scales w' :=
  ⟨(hb.cell (p := ⟨0, 0, none⟩) hB).trans h.1, (hb.cell (p := ⟨0, 1, none⟩) hB).trans h.2.1, (hb.cell (p := ⟨0, 2, none⟩) hB).trans h.2.2⟩

/-- four cells written into a block of one's own -/
theorem four_set {w w1 : World} {g : Nat} {z0 z1 z2 z3 : Value} (v0 v1 v2 v3 : Value) (hb : Below w.heap.size w w1) (hg : g = w.heap.size) (h0 : w1.cell? ⟨g, 0, none⟩ = some z0) (h1 : w1.cell? ⟨g, 1, none⟩ = some z1) (h2 : w1.cell? ⟨g, 2, none⟩ = some z2) (h3 : w1.cell? ⟨g, 3, none⟩ = some z3) :
    ∃ w4, ((((w1.setCell ⟨g, 0, none⟩ v0).setCell ⟨g, 1, none⟩ v1).setCell ⟨g, 2, none⟩ v2).setCell ⟨g, 3, none⟩ v3) = w4 ∧ w4.cell? ⟨g, 0, none⟩ = some v0 ∧ w4.cell? ⟨g, 1, none⟩ = some v1 ∧ w4.cell? ⟨g, 2, none⟩ = some v2 ∧ w4.cell? ⟨g, 3, none⟩ = some v3 ∧ Below w.heap.size w w4 := by
  have far : ∀ (W : World) (i j : Nat) (v : Value), i ≠ j → (W.setCell ⟨g, i, none⟩ v).cell? ⟨g, j, none⟩ = W.cell? ⟨g, j, none⟩ := fun W i j v h => World.cell?_setCell_other W _ _ v (by intro e; injection e with _ e2; exact h e2)
  refine ⟨_, rfl, ?_, ?_, ?_, ?_, (((hb.setCell (by simp [hg]) _).setCell (by simp [hg]) _).setCell (by simp [hg]) _).setCell (by simp [hg]) _⟩
  · rw [far _ _ _ _ (by decide), far _ _ _ _ (by decide), far _ _ _ _ (by decide)]
    exact World.cell?_setCell_same _ _ _ h0
  · rw [far _ _ _ _ (by decide), far _ _ _ _ (by decide)]
    exact World.cell?_setCell_same (u := z1) _ _ _ (by rw [far _ _ _ _ (by decide)]; exact h1)
  · rw [far _ _ _ _ (by decide)]
    exact World.cell?_setCell_same (u := z2) _ _ _ (by rw [far _ _ _ _ (by decide), far _ _ _ _ (by decide)]; exact h2)
  · exact World.cell?_setCell_same (u := z3) _ _ _ (by rw [far _ _ _ _ (by decide), far _ _ _ _ (by decide), far _ _ _ _ (by decide)]; exact h3)

set_option maxHeartbeats 1600000 in
theorem point11 (x0 x1 x2 x3 : Nat) (h0 : x0 < 18446744073709551616) (h1 : x1 < 18446744073709551616) (h2 : x2 < 18446744073709551616) (w : World) (hs : Scales w) (b : Nat)
    (hc0 : w.cell? ⟨b, 0, none⟩ = some (.float .f64 x0)) (hc1 : w.cell? ⟨b, 1, none⟩ = some (.float .f64 x1)) (hc2 : w.cell? ⟨b, 2, none⟩ = some (.float .f64 x2)) (hc4 : w.cell? ⟨b, 4, none⟩ = some (.float .f64 x3)) :
    Calls Tryd.prog 11 #[.pointer (some ⟨b, 0, none⟩)] w fun e w' => ∃ y0 y1 y2, e = .returned (.agg #[.float .f64 y0, .float .f64 y1, .float .f64 y2, .float .f64 x3]) ∧ Far 3 x0 x1 x2 y0 y1 y2 ∧ Below w.heap.size w w' := by
  have hst : ∀ (a : Addr) (x : Nat) (m : Mode) (w : World), (store a (.float .f64 x) m).run Tryd.prog w = stored Tryd.prog w a (.float .f64 x) m := fun a x m w => run_store Tryd.prog w a _ m rfl
  have hbw : b < w.heap.size := block_lt_of_cell hc0
  have hpw : 0 < w.heap.size := block_lt_of_cell hs.1
  have hE : Calls Tryd.prog 12 #[.float .f64 x0, .float .f64 x1, .float .f64 x2, .float .f64 x3] (w.alloc (.cells #[.float .f64 0, .float .f64 0, .float .f64 0, .float .f64 0] 43)).drew fun e w1 => ∃ y0 y1 y2, e = .returned (.agg #[.float .f64 y0, .float .f64 y1, .float .f64 y2, .float .f64 x3]) ∧ Hid (Far 3 x0 x1 x2 y0 y1 y2) ∧ Hid (Below w.heap.size w w1) ∧
      (w1.cell? ⟨b, 0, none⟩ = some (.float .f64 x0) ∧ w1.cell? ⟨b, 1, none⟩ = some (.float .f64 x1) ∧ w1.cell? ⟨b, 2, none⟩ = some (.float .f64 x2) ∧ w1.cell? ⟨b, 4, none⟩ = some (.float .f64 x3)) ∧
      (w1.cell? ⟨w.heap.size, 0, none⟩ = some (.float .f64 0) ∧ w1.cell? ⟨w.heap.size, 1, none⟩ = some (.float .f64 0) ∧ w1.cell? ⟨w.heap.size, 2, none⟩ = some (.float .f64 0) ∧ w1.cell? ⟨w.heap.size, 3, none⟩ = some (.float .f64 0)) ∧
      (w1.frozen? ⟨w.heap.size, 0, none⟩ = false ∧ w1.frozen? ⟨w.heap.size, 1, none⟩ = false ∧ w1.frozen? ⟨w.heap.size, 2, none⟩ = false ∧ w1.frozen? ⟨w.heap.size, 3, none⟩ = false) ∧ w.heap.size < w1.heap.size := by
    have hba : Below w.heap.size w (w.alloc (.cells #[.float .f64 0, .float .f64 0, .float .f64 0, .float .f64 0] 43)).drew := ((Below.refl _ _).alloc (Nat.le_refl _) _).drew
    have hsz : (w.alloc (.cells #[.float .f64 0, .float .f64 0, .float .f64 0, .float .f64 0] 43)).drew.heap.size = w.heap.size + 1 := by simp
    refine (point12 x0 x1 x2 x3 h0 h1 h2 _ (hs.below hba hpw)).mono ?_
    rintro e w1 ⟨y0, y1, y2, he, hf, hb⟩
    have hb2 := hb
    rw [hsz] at hb2
    have hbb : Below w.heap.size w w1 := hba.trans (hb.mono (by rw [hsz]; omega))
    have hcz : ∀ j, j < 4 → w1.cell? ⟨w.heap.size, j, none⟩ = some (.float .f64 0) := fun j hj => by
      rw [hb2.cell (p := ⟨w.heap.size, j, none⟩) (Nat.lt_succ_self _)]
      match j, hj with
      | 0, _ => simp
      | 1, _ => simp
      | 2, _ => simp
      | 3, _ => simp
    have hfz : ∀ j, w1.frozen? ⟨w.heap.size, j, none⟩ = false := fun j => by
      rw [hb2.frozen (p := ⟨w.heap.size, j, none⟩) (Nat.lt_succ_self _)]
      simp
    exact ⟨y0, y1, y2, he, hf, hbb, ⟨(hbb.cell (p := ⟨b, 0, none⟩) hbw).trans hc0, (hbb.cell (p := ⟨b, 1, none⟩) hbw).trans hc1, (hbb.cell (p := ⟨b, 2, none⟩) hbw).trans hc2, (hbb.cell (p := ⟨b, 4, none⟩) hbw).trans hc4⟩,
      ⟨hcz 0 (by decide), hcz 1 (by decide), hcz 2 (by decide), hcz 3 (by decide)⟩, ⟨hfz 0, hfz 1, hfz 2, hfz 3⟩, Nat.lt_of_lt_of_le (by rw [hsz]; omega) hb.size⟩
  have hn0 : w.heap.size ≠ b := by omega
  have hnb : b ≠ w.heap.size := by omega
  have HE := Lib.hid hE
  clear hE hs
  go_enter Tryd.func11, Tryd.ntmps11
  go_wp2
  go_region_held3 (fun w' => w'.cell? ⟨b, 0, none⟩ = some (.float .f64 x0) ∧ w'.cell? ⟨b, 1, none⟩ = some (.float .f64 x1) ∧ w'.cell? ⟨b, 2, none⟩ = some (.float .f64 x2) ∧ w'.cell? ⟨b, 4, none⟩ = some (.float .f64 x3)) (go_keep) ((go_at_call 12; refine Calls.mono HE.out ?_; rintro e w1 ⟨y0, y1, y2, rfl, HF, HB, ⟨hd0, hd1, hd2, hd4⟩, ⟨hz0, hz1, hz2, hz3⟩, ⟨hf0, hf1, hf2, hf3⟩, hlt⟩))
  obtain ⟨w4, hw4, e0, e1, e2, e3, hb4⟩ := four_set (.float .f64 y0) (.float .f64 y1) (.float .f64 y2) (.float .f64 x3) HB.out rfl hz0 hz1 hz2 hz3
  rw [hw4]
  clear hw4
  go_wp2
  refine bodyPost_ret (by simp [results, Tryd.results11, go_sem, e0, e1, e2, e3]; try rfl) rfl ?_
  exact ⟨y0, y1, y2, rfl, HF.out, hb4⟩
/-- a contract of a point's function, made ready for a caller that has laid a block of its own -/
def Made (x0 x1 x2 x3 : Nat) (w : World) (e : Ending) (w1 : World) : Prop := ∃ y0 y1 y2, e = .returned (.agg #[.float .f64 y0, .float .f64 y1, .float .f64 y2, .float .f64 x3]) ∧ Hid (Far 3 x0 x1 x2 y0 y1 y2) ∧ Hid (Below w.heap.size w w1) ∧
      (w1.cell? ⟨w.heap.size, 0, none⟩ = some (.float .f64 0) ∧ w1.cell? ⟨w.heap.size, 1, none⟩ = some (.float .f64 0) ∧ w1.cell? ⟨w.heap.size, 2, none⟩ = some (.float .f64 0) ∧ w1.cell? ⟨w.heap.size, 3, none⟩ = some (.float .f64 0)) ∧
      (w1.frozen? ⟨w.heap.size, 0, none⟩ = false ∧ w1.frozen? ⟨w.heap.size, 1, none⟩ = false ∧ w1.frozen? ⟨w.heap.size, 2, none⟩ = false ∧ w1.frozen? ⟨w.heap.size, 3, none⟩ = false) ∧ w.heap.size < w1.heap.size
theorem made_of {x0 x1 x2 x3 t : Nat} {w wa w1 : World} {e : Ending} (hba : Below (w.heap.size + 1) (w.alloc (.cells #[.float .f64 0, .float .f64 0, .float .f64 0, .float .f64 0] t)) wa)
    (h : ∃ y0 y1 y2, e = .returned (.agg #[.float .f64 y0, .float .f64 y1, .float .f64 y2, .float .f64 x3]) ∧ Far 3 x0 x1 x2 y0 y1 y2 ∧ Below wa.heap.size wa w1) : Made x0 x1 x2 x3 w e w1 := by
  obtain ⟨y0, y1, y2, he, hf, hb⟩ := h
  have hsz : (w.alloc (.cells #[.float .f64 0, .float .f64 0, .float .f64 0, .float .f64 0] t)).heap.size = w.heap.size + 1 := by simp
  have hle : w.heap.size + 1 ≤ wa.heap.size := by have := hba.size; omega
  have hb2 : Below (w.heap.size + 1) (w.alloc (.cells #[.float .f64 0, .float .f64 0, .float .f64 0, .float .f64 0] t)) w1 := hba.trans (hb.mono hle)
  have hbb : Below w.heap.size w w1 := ((Below.refl _ _).alloc (Nat.le_refl _) _).trans (hb2.mono (by omega))
  have hcz : ∀ j, j < 4 → w1.cell? ⟨w.heap.size, j, none⟩ = some (.float .f64 0) := fun j hj => by
    rw [hb2.cell (p := ⟨w.heap.size, j, none⟩) (Nat.lt_succ_self _)]
    match j, hj with
    | 0, _ => simp
    | 1, _ => simp
    | 2, _ => simp
    | 3, _ => simp
  have hfz : ∀ j, w1.frozen? ⟨w.heap.size, j, none⟩ = false := fun j => by
    rw [hb2.frozen (p := ⟨w.heap.size, j, none⟩) (Nat.lt_succ_self _)]
    simp
  exact ⟨y0, y1, y2, he, hf, hbb, ⟨hcz 0 (by decide), hcz 1 (by decide), hcz 2 (by decide), hcz 3 (by decide)⟩, ⟨hfz 0, hfz 1, hfz 2, hfz 3⟩, by have := hb.size; omega⟩

set_option maxHeartbeats 1600000 in
theorem zzpoint10 (x0 x1 x2 x3 : Nat) (h0 : x0 < 18446744073709551616) (h1 : x1 < 18446744073709551616) (h2 : x2 < 18446744073709551616) (w : World) (hs : Scales w) (b : Nat)
    (hc0 : w.cell? ⟨b, 0, none⟩ = some (.float .f64 x0)) (hc1 : w.cell? ⟨b, 1, none⟩ = some (.float .f64 x1)) (hc2 : w.cell? ⟨b, 2, none⟩ = some (.float .f64 x2)) (hc4 : w.cell? ⟨b, 4, none⟩ = some (.float .f64 x3)) :
    Calls Tryd.prog 10 #[.pointer (some ⟨b, 0, none⟩)] w fun e w' => ∃ y0 y1 y2, e = .returned (.agg #[.float .f64 y0, .float .f64 y1, .float .f64 y2, .float .f64 x3]) ∧ Far 3 x0 x1 x2 y0 y1 y2 ∧ Below w.heap.size w w' := by
  have hst : ∀ (a : Addr) (x : Nat) (m : Mode) (w : World), (store a (.float .f64 x) m).run Tryd.prog w = stored Tryd.prog w a (.float .f64 x) m := fun a x m w => run_store Tryd.prog w a _ m rfl
  have hbw : b < w.heap.size := block_lt_of_cell hc0
  have hpw : 0 < w.heap.size := block_lt_of_cell hs.1
  have hE : Calls Tryd.prog 11 #[.pointer (some ⟨b, 0, none⟩)] (w.alloc (.cells #[.float .f64 0, .float .f64 0, .float .f64 0, .float .f64 0] 23)) (Made x0 x1 x2 x3 w) := by
    have hba : Below w.heap.size w (w.alloc (.cells #[.float .f64 0, .float .f64 0, .float .f64 0, .float .f64 0] 23)) := (Below.refl _ _).alloc (Nat.le_refl _) _
    exact (point11 x0 x1 x2 x3 h0 h1 h2 _ (hs.below hba hpw) b ((hba.cell (p := ⟨b, 0, none⟩) hbw).trans hc0) ((hba.cell (p := ⟨b, 1, none⟩) hbw).trans hc1) ((hba.cell (p := ⟨b, 2, none⟩) hbw).trans hc2) ((hba.cell (p := ⟨b, 4, none⟩) hbw).trans hc4)).mono fun e w1 h => made_of (Below.refl _ _) h
  have HE := Lib.hid hE
  clear hE hs hc0 hc1 hc2 hc4
  go_enter Tryd.func10, Tryd.ntmps10
  go_wp2_with (go_at_call 11; refine Calls.mono HE.out ?_; rintro e w1 ⟨y0, y1, y2, rfl, HF, HB, ⟨hz0, hz1, hz2, hz3⟩, ⟨hf0, hf1, hf2, hf3⟩, hlt⟩; refine Hid.out ?_)
  refine Lib.hid ?_
  go_wp2
  obtain ⟨w4, hw4, e0, e1, e2, e3, hb4⟩ := four_set (.float .f64 y0) (.float .f64 y1) (.float .f64 y2) (.float .f64 x3) HB.out rfl hz0 hz1 hz2 hz3
  rw [hw4]
  clear hw4
  refine bodyPost_ret (by simp [results, Tryd.results10, go_sem, e0, e1, e2, e3]; try rfl) rfl ?_
  exact ⟨y0, y1, y2, rfl, HF.out, hb4⟩
set_option maxHeartbeats 1600000 in
theorem zzpoint5 (x0 x1 x2 x3 : Nat) (h0 : x0 < 18446744073709551616) (h1 : x1 < 18446744073709551616) (h2 : x2 < 18446744073709551616) (w : World) (hs : Scales w) :
    Calls Tryd.prog 5 #[.float .f64 x0, .float .f64 x1, .float .f64 x2, .float .f64 x3] w fun e w' => ∃ y0 y1 y2, e = .returned (.agg #[.float .f64 y0, .float .f64 y1, .float .f64 y2, .float .f64 x3]) ∧ Far 3 x0 x1 x2 y0 y1 y2 ∧ Below w.heap.size w w' := by
  have hst : ∀ (a : Addr) (x : Nat) (m : Mode) (w : World), (store a (.float .f64 x) m).run Tryd.prog w = stored Tryd.prog w a (.float .f64 x) m := fun a x m w => run_store Tryd.prog w a _ m rfl
  have hpw : 0 < w.heap.size := block_lt_of_cell hs.1
  have hE : Calls Tryd.prog 10 #[.pointer (some ⟨w.heap.size + 1, 0, none⟩)] ((w.alloc (.cells #[.float .f64 0, .float .f64 0, .float .f64 0, .float .f64 0] 23)).alloc (.cells #[.float .f64 x0, .float .f64 x1, .float .f64 x2, .int .i64 0, .float .f64 x3, .pointer none, .pointer none, .int .i64 0, .slice none 0 0, .string ⟨#[]⟩, .slice none 0 0, .pointer none, .pointer none, .bool false, .pointer none, .bool false] 41)) (Made x0 x1 x2 x3 w) := by
    have hsz : (w.alloc (.cells #[.float .f64 0, .float .f64 0, .float .f64 0, .float .f64 0] 23)).heap.size = w.heap.size + 1 := by simp
    have hba : Below w.heap.size w ((w.alloc (.cells #[.float .f64 0, .float .f64 0, .float .f64 0, .float .f64 0] 23)).alloc (.cells #[.float .f64 x0, .float .f64 x1, .float .f64 x2, .int .i64 0, .float .f64 x3, .pointer none, .pointer none, .int .i64 0, .slice none 0 0, .string ⟨#[]⟩, .slice none 0 0, .pointer none, .pointer none, .bool false, .pointer none, .bool false] 41)) := ((Below.refl _ _).alloc (Nat.le_refl _) _).alloc (by omega) _
    refine (zzpoint10 x0 x1 x2 x3 h0 h1 h2 _ (hs.below hba hpw) (w.heap.size + 1) ?_ ?_ ?_ ?_).mono fun e w1 h => made_of ((Below.refl _ _).alloc (by omega) _) h
    · simp
    · simp
    · simp
    · simp
  have HE := Lib.hid hE
  clear hE hs
  go_enter Tryd.func5, Tryd.ntmps5
  go_wp2_with (go_at_call 10; refine Calls.mono HE.out ?_; rintro e w1 ⟨y0, y1, y2, rfl, HF, HB, ⟨hz0, hz1, hz2, hz3⟩, ⟨hf0, hf1, hf2, hf3⟩, hlt⟩; refine Hid.out ?_)
  refine Lib.hid ?_
  go_wp2
  obtain ⟨w4, hw4, e0, e1, e2, e3, hb4⟩ := four_set (.float .f64 y0) (.float .f64 y1) (.float .f64 y2) (.float .f64 x3) HB.out rfl hz0 hz1 hz2 hz3
  rw [hw4]
  clear hw4
  refine bodyPost_ret (by simp [results, Tryd.results5, go_sem, e0, e1, e2, e3]; try rfl) rfl ?_
  exact ⟨y0, y1, y2, rfl, HF.out, hb4⟩
end Go.Proofs.Qxb6615722aDoor
