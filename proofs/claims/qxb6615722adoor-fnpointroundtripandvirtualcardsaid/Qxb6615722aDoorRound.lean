import Derived.Test.Qxb6615722aDoorMono
import Derived.Test.Qxb6615722aDoorMul
namespace Go.Proofs.Qxb6615722aDoor
open Go.RowKit

theorem scale8 (d : Nat) (s : Nat) (hd : (d = 0 ∧ s = 4616189618054758400) ∨ (d = 1 ∧ s = 4679240012837945344) ∨ (d = 2 ∧ s = 4661225614328463360)) (w : World) :
    Calls Tryd.prog 8 #[.int .i64 (d : Int)] w fun e w' => e = .returned (.float .f64 s) ∧ w' = w := by
  rcases hd with ⟨rfl, rfl⟩ | ⟨rfl, rfl⟩ | ⟨rfl, rfl⟩ <;> (
    go_enter Tryd.func8, Tryd.ntmps8
    go_wp2
    go_ret
    exact ⟨rfl, rfl⟩)

theorem coord7 (k : Nat) (hk : k ≤ 20) (s : Nat) (hs : s = (1023 + k) * 4503599627370496) (x c : Nat) (w : World) (h : Coord k x c) :
    Calls Tryd.prog 7 #[.float .f64 x, .float .f64 s, .float .f64 c] w fun e w' => e = .returned (.bool true) ∧ w' = w := by
  rcases h with ⟨z, hx, hc⟩ | ⟨hx, hc⟩
  · have h1 : (FloatKind.f64.format.order x x != some Ordering.eq) = false := by unfold bne; rw [hx.eql hx]; simp
    have h4 : (FloatKind.f64.format.order c c == some Ordering.eq) = true := by rw [hc.eql hc]; simp
    have hl := round_law k hk hx hc
    rw [← hs] at hl
    clear hx hc hs hk
    cases g : (FloatKind.f64.format.order x s == some Ordering.gt || FloatKind.f64.format.order x s == some Ordering.eq) with
    | true =>
      have h2 := hl.1 g
      clear hl h4
      go_enter Tryd.func7, Tryd.ntmps7
      go_wp2
      go_ret
      exact ⟨rfl, rfl⟩
    | false =>
      obtain ⟨h2, h3⟩ := hl.2 g
      clear hl
      cases he : exB x with
      | false =>
        clear h3
        go_enter Tryd.func7, Tryd.ntmps7
        go_wp2_with (go_at_call 9; refine (exact9 x _).mono ?_; rintro e w' ⟨rfl, rfl⟩; refine Hid.out ?_)
        refine Lib.hid ?_
        go_wp2
        go_ret
        exact ⟨rfl, rfl⟩
      | true =>
        obtain ⟨y, hy, h5⟩ := h3 he
        have hm : ∀ (t : TypeId) (w : World), (binOp .mul t (.float .f64 c) (.float .f64 s)).run Tryd.prog w = .ok (.float .f64 y) w := fun t w => run_float_arith w .mul t .f64 c s y hy
        clear h3 hy
        go_enter Tryd.func7, Tryd.ntmps7
        go_wp2_with (go_at_call 9; refine (exact9 x _).mono ?_; rintro e w' ⟨rfl, rfl⟩; refine Hid.out ?_)
        refine Lib.hid ?_
        go_wp2
        go_ret
        exact ⟨rfl, rfl⟩
  · have h1 : (FloatKind.f64.format.order x x != some Ordering.eq) = true := by rw [show FloatKind.f64.format.order x x = none from hx.order x]; rfl
    have h2 : (FloatKind.f64.format.order c c != some Ordering.eq) = true := by rw [show FloatKind.f64.format.order c c = none from hc.order c]; rfl
    clear hx hc hs hk
    go_enter Tryd.func7, Tryd.ntmps7
    go_wp2
    go_ret
    exact ⟨rfl, rfl⟩
theorem num_unique {x : Nat} {z z' : Int} (h : Num x z) (h' : Num x z') : z = z' := by
  have := h.eql h'
  rw [h.eql h] at this
  simpa using this
theorem coord_alike {k x a b : Nat} (ha : Coord k x a) (hb : Coord k x b) : Alike a b := by
  rcases ha with ⟨z, hx, ha⟩ | ⟨hx, ha⟩
  · rcases hb with ⟨z', hx', hb⟩ | ⟨hx', hb⟩
    · obtain rfl := num_unique hx hx'
      exact .inl ⟨_, ha, hb⟩
    · exact (hx.not_nan hx').elim
  · rcases hb with ⟨z', hx', hb⟩ | ⟨hx', hb⟩
    · exact (hx'.not_nan hx).elim
    · exact .inr ⟨ha, hb⟩
theorem blocks2 {w w2 : World} {P p0 p1 p2 a3 : Nat} (q0 q1 q2 b3 a0 a1 a2 : Nat) (hB : Below w.heap.size w w2) (h12 : P < w2.heap.size) (hp0 : w2.cell? ⟨P, 0, none⟩ = some (.float .f64 p0)) (hp1 : w2.cell? ⟨P, 1, none⟩ = some (.float .f64 p1)) (hp2 : w2.cell? ⟨P, 2, none⟩ = some (.float .f64 p2)) (hp3 : w2.cell? ⟨P, 3, none⟩ = some (.float .f64 a3)) :
    ∃ wl, ((w2.alloc (.cells #[.float .f64 q0, .float .f64 q1, .float .f64 q2, .float .f64 b3] 23)).alloc (.cells #[.float .f64 a0, .float .f64 a1, .float .f64 a2] 25)) = wl ∧ Below w.heap.size w wl ∧ wl.cell? ⟨P, 0, none⟩ = some (.float .f64 p0) ∧ wl.cell? ⟨P, 1, none⟩ = some (.float .f64 p1) ∧ wl.cell? ⟨P, 2, none⟩ = some (.float .f64 p2) ∧ wl.cell? ⟨P, 3, none⟩ = some (.float .f64 a3) ∧ wl.cell? ⟨w2.heap.size, 0, none⟩ = some (.float .f64 q0) ∧ wl.cell? ⟨w2.heap.size, 1, none⟩ = some (.float .f64 q1) ∧ wl.cell? ⟨w2.heap.size, 2, none⟩ = some (.float .f64 q2) ∧ wl.cell? ⟨w2.heap.size, 3, none⟩ = some (.float .f64 b3) ∧ wl.cell? ⟨w2.heap.size + 1, 0, none⟩ = some (.float .f64 a0) ∧ wl.cell? ⟨w2.heap.size + 1, 1, none⟩ = some (.float .f64 a1) ∧ wl.cell? ⟨w2.heap.size + 1, 2, none⟩ = some (.float .f64 a2) := by
  have old : ∀ j, ((w2.alloc (.cells #[.float .f64 q0, .float .f64 q1, .float .f64 q2, .float .f64 b3] 23)).alloc (.cells #[.float .f64 a0, .float .f64 a1, .float .f64 a2] 25)).cell? ⟨P, j, none⟩ = w2.cell? ⟨P, j, none⟩ := fun j => by
    rw [World.cell?_alloc_past _ _ _ (by simp; omega), World.cell?_alloc_past _ _ _ h12]
  have hle := hB.size
  have hbl : Below w.heap.size w ((w2.alloc (.cells #[.float .f64 q0, .float .f64 q1, .float .f64 q2, .float .f64 b3] 23)).alloc (.cells #[.float .f64 a0, .float .f64 a1, .float .f64 a2] 25)) := (hB.alloc hle _).alloc (by simp; omega) _
  have q' : ∀ j, ((w2.alloc (.cells #[.float .f64 q0, .float .f64 q1, .float .f64 q2, .float .f64 b3] 23)).alloc (.cells #[.float .f64 a0, .float .f64 a1, .float .f64 a2] 25)).cell? ⟨w2.heap.size, j, none⟩ = #[Value.float .f64 q0, .float .f64 q1, .float .f64 q2, .float .f64 b3][j]? := fun j => by
    rw [World.cell?_alloc_past _ _ _ (by simp), World.cell?_alloc_at _ _ _ _ rfl]
  have a' : ∀ j, ((w2.alloc (.cells #[.float .f64 q0, .float .f64 q1, .float .f64 q2, .float .f64 b3] 23)).alloc (.cells #[.float .f64 a0, .float .f64 a1, .float .f64 a2] 25)).cell? ⟨w2.heap.size + 1, j, none⟩ = #[Value.float .f64 a0, .float .f64 a1, .float .f64 a2][j]? := fun j => by
    rw [World.cell?_alloc_at _ _ _ _ (by simp)]
  exact ⟨_, rfl, hbl, (old 0).trans hp0, (old 1).trans hp1, (old 2).trans hp2, (old 3).trans hp3, q' 0, q' 1, q' 2, q' 3, a' 0, a' 1, a' 2⟩

set_option maxHeartbeats 6400000 in
set_option maxRecDepth 20000 in
theorem round_any (a0 a1 a2 a3 b3 : Nat) (ha0 : a0 < 18446744073709551616) (ha1 : a1 < 18446744073709551616) (ha2 : a2 < 18446744073709551616) (ha3 : a3 < 18446744073709551616) (hb3 : b3 < 18446744073709551616) (w : World) (hs : Scales w) :
    Calls Tryd.prog 3 #[.float .f64 a0, .float .f64 a1, .float .f64 a2, .float .f64 a3, .float .f64 b3] w fun e w' => e = .returned (.bool true) ∧ Below w.heap.size w w' := by
  have hst : ∀ (a : Addr) (x : Nat) (m : Mode) (w : World), (store a (.float .f64 x) m).run Tryd.prog w = stored Tryd.prog w a (.float .f64 x) m := fun a x m w => run_store Tryd.prog w a _ m rfl
  have hpw : 0 < w.heap.size := block_lt_of_cell hs.1
  have C1 := Lib.hid (zzpoint5 a0 a1 a2 a3 ha0 ha1 ha2 w hs)
  go_enter Tryd.func3, Tryd.ntmps3
  go_wp2_with (go_at_call 5; refine Calls.mono C1.out ?_; rintro e w1 ⟨p0, p1, p2, rfl, hF1, hB1⟩; refine Hid.out ?_)
  refine Lib.hid ?_
  have hpw1 : 0 < w1.heap.size := Nat.lt_of_lt_of_le hpw hB1.size
  have hsa : Scales (w1.alloc (.cells #[.float .f64 p0, .float .f64 p1, .float .f64 p2, .float .f64 a3] 23)) := (hs.below hB1 hpw).below ((Below.refl w1.heap.size w1).alloc (Nat.le_refl _) _) hpw1
  have C2 := Lib.hid (zzpoint5 a0 a1 a2 b3 ha0 ha1 ha2 _ hsa)
  have F1 := Lib.hid hF1
  have B1 := Lib.hid hB1
  clear hsa hF1 hB1 hs C1
  go_wp2_with (go_at_call 5; refine Calls.mono C2.out ?_; rintro e w2 ⟨q0, q1, q2, rfl, hF2, hB2⟩; refine Hid.out ?_)
  refine Lib.hid ?_
  have hsz : (w1.alloc (.cells #[.float .f64 p0, .float .f64 p1, .float .f64 p2, .float .f64 a3] 23)).heap.size = w1.heap.size + 1 := by simp
  have hw12 : w1.heap.size < w2.heap.size := by have := hB2.size; omega
  have hcp : ∀ j v, #[Value.float .f64 p0, .float .f64 p1, .float .f64 p2, .float .f64 a3][j]? = some v → w2.cell? ⟨w1.heap.size, j, none⟩ = some v := fun j v hj => by
    rw [hB2.cell (p := ⟨w1.heap.size, j, none⟩) (by rw [hsz]; exact Nat.lt_succ_self _)]
    simpa using hj
  have hp0 : w2.cell? ⟨w1.heap.size, 0, none⟩ = some (.float .f64 p0) := hcp 0 _ rfl
  have hp1 : w2.cell? ⟨w1.heap.size, 1, none⟩ = some (.float .f64 p1) := hcp 1 _ rfl
  have hp2 : w2.cell? ⟨w1.heap.size, 2, none⟩ = some (.float .f64 p2) := hcp 2 _ rfl
  have hp3 : w2.cell? ⟨w1.heap.size, 3, none⟩ = some (.float .f64 a3) := hcp 3 _ rfl
  have hbb : Below w.heap.size w w2 := B1.out.trans (((Below.refl w1.heap.size w1).alloc (Nat.le_refl _) (.cells #[.float .f64 p0, .float .f64 p1, .float .f64 p2, .float .f64 a3] 23)).trans (hB2.mono (by omega)) |>.mono B1.out.size)
  have F2 := Lib.hid hF2
  have B2 := Lib.hid hbb
  clear hcp hsz hF2 hB2 hbb B1 C2
  have hex := blocks2 q0 q1 q2 b3 a0 a1 a2 B2.out hw12 hp0 hp1 hp2 hp3
  obtain ⟨wl, hwl, hbl, c0, c1, c2, c3, c4, c5, c6, c7, c8, c9, c10⟩ := hex
  go_wp2
  have BL := Lib.hid hbl
  clear hwl hbl hp0 hp1 hp2 hp3 B2
  generalize w1.heap.size = bp at *
  generalize w2.heap.size + 1 = ba at *
  generalize w2.heap.size = bq at *
  go_loopw [14] (fun i wr => ∃ d nn : Nat, i = .int .i64 d ∧ (d = 0 ∨ d = 1 ∨ d = 2 ∨ d = 3) ∧ wr = wl.drewN nn) (fun i _ => 3 - (RowKit.intOf i).toNat)
  case atStart => exact ⟨0, 0, rfl, .inl rfl, rfl⟩
  case round =>
    obtain ⟨d, nn, rfl, hd, rfl⟩ := hrel
    rcases hd with rfl | rfl | rfl | rfl
    · have hc1 : Coord 2 a0 p0 := (by rcases F1.out with h | h | h | h <;> first | exact h.2.1 | (exact absurd h.1 (by decide)))
      have hc2 : Coord 2 a0 q0 := (by rcases F2.out with h | h | h | h <;> first | exact h.2.1 | (exact absurd h.1 (by decide)))
      have K6 := Lib.hid (fun w => same6 p0 q0 w (coord_alike hc1 hc2))
      have K7 := Lib.hid (fun w => coord7 2 (by decide) 4616189618054758400 (by decide) a0 p0 w hc1)
      have K8 := Lib.hid (scale8 0 4616189618054758400 (.inl ⟨rfl, rfl⟩))
      clear hc1 hc2
      go_wp2
      go_quiet ((go_at_call 6; exact (K6.out _).mono fun _ _ h => ⟨h.1, _, h.2⟩))
      go_wp2
      go_quiet ((first | (go_at_call 8; exact (K8.out _).mono fun _ _ h => ⟨h.1, _, h.2⟩) | (go_at_call 7; exact (K7.out _).mono fun _ _ h => ⟨h.1, _, h.2⟩)))
      go_wp2
      go_roundw
      case rel => exact ⟨1, _, rfl, .inr (.inl rfl), rfl⟩
      case measure => decide
    · have hc1 : Coord 16 a1 p1 := (by rcases F1.out with h | h | h | h <;> first | exact h.2.2.1 | (exact absurd h.1 (by decide)))
      have hc2 : Coord 16 a1 q1 := (by rcases F2.out with h | h | h | h <;> first | exact h.2.2.1 | (exact absurd h.1 (by decide)))
      have K6 := Lib.hid (fun w => same6 p1 q1 w (coord_alike hc1 hc2))
      have K7 := Lib.hid (fun w => coord7 16 (by decide) 4679240012837945344 (by decide) a1 p1 w hc1)
      have K8 := Lib.hid (scale8 1 4679240012837945344 (.inr (.inl ⟨rfl, rfl⟩)))
      clear hc1 hc2
      go_wp2
      go_quiet ((go_at_call 6; exact (K6.out _).mono fun _ _ h => ⟨h.1, _, h.2⟩))
      go_wp2
      go_quiet ((first | (go_at_call 8; exact (K8.out _).mono fun _ _ h => ⟨h.1, _, h.2⟩) | (go_at_call 7; exact (K7.out _).mono fun _ _ h => ⟨h.1, _, h.2⟩)))
      go_wp2
      go_roundw
      case rel => exact ⟨2, _, rfl, .inr (.inr (.inl rfl)), rfl⟩
      case measure => decide
    · have hc1 : Coord 12 a2 p2 := (by rcases F1.out with h | h | h | h <;> first | exact h.2.2.2 | (exact absurd h.1 (by decide)))
      have hc2 : Coord 12 a2 q2 := (by rcases F2.out with h | h | h | h <;> first | exact h.2.2.2 | (exact absurd h.1 (by decide)))
      have K6 := Lib.hid (fun w => same6 p2 q2 w (coord_alike hc1 hc2))
      have K7 := Lib.hid (fun w => coord7 12 (by decide) 4661225614328463360 (by decide) a2 p2 w hc1)
      have K8 := Lib.hid (scale8 2 4661225614328463360 (.inr (.inr ⟨rfl, rfl⟩)))
      clear hc1 hc2
      go_wp2
      go_quiet ((go_at_call 6; exact (K6.out _).mono fun _ _ h => ⟨h.1, _, h.2⟩))
      go_wp2
      go_quiet ((first | (go_at_call 8; exact (K8.out _).mono fun _ _ h => ⟨h.1, _, h.2⟩) | (go_at_call 7; exact (K7.out _).mono fun _ _ h => ⟨h.1, _, h.2⟩)))
      go_wp2
      go_roundw
      case rel => exact ⟨3, _, rfl, .inr (.inr (.inr rfl)), rfl⟩
      case measure => decide
    · go_wp2_with (go_at_call 6; refine (same6 a3 a3 _ (alike_refl ha3)).mono ?_; rintro e w' ⟨rfl, rfl⟩; refine Hid.out ?_)
      refine Lib.hid ?_
      go_wp2_with (go_at_call 6; refine (same6 b3 b3 _ (alike_refl hb3)).mono ?_; rintro e w' ⟨rfl, rfl⟩; refine Hid.out ?_)
      refine Lib.hid ?_
      go_wp2
      go_ret
      exact ⟨rfl, below_drewN BL.out _⟩
end Go.Proofs.Qxb6615722aDoor
