import Derived.Test.Qxb6615722aDoorJob
import Derived.Test.Qxb6615722aDoorLaw
import Derived.Deep.QuietTactic
import Derived.BigQuiet
namespace Go.Proofs.Qxb6615722aDoor
open Go.RowKit

theorem exact9 (x : Nat) (w : World) : Calls Tryd.prog 9 #[.float .f64 x] w fun e w' => e = .returned (.bool (exB x)) ∧ w' = w := by
  unfold exB
  generalize h1 : (FloatKind.f64.format.order x 0 == some Ordering.eq) = b1
  generalize h2 : (FloatKind.f64.format.order x 103582791429521408 == some Ordering.gt || FloatKind.f64.format.order x 103582791429521408 == some Ordering.eq) = b2
  generalize h3 : (FloatKind.f64.format.order x 9326954828284297216 == some Ordering.lt || FloatKind.f64.format.order x 9326954828284297216 == some Ordering.eq) = b3
  cases b1 <;> cases b2 <;> cases b3 <;> (
    go_enter Tryd.func9, Tryd.ntmps9
    go_wp2
    go_ret
    exact ⟨rfl, rfl⟩)

/-- the same number, or both no number -/
def Alike (a b : Nat) : Prop := (∃ z, Num a z ∧ Num b z) ∨ (IsNaN a ∧ IsNaN b)
theorem same6 (a b : Nat) (w : World) (h : Alike a b) : Calls Tryd.prog 6 #[.float .f64 a, .float .f64 b] w fun e w' => e = .returned (.bool true) ∧ w' = w := by
  rcases h with ⟨z, ha, hb⟩ | ⟨ha, hb⟩
  · have h1 : (FloatKind.f64.format.order a a != some Ordering.eq) = false := by unfold bne; rw [ha.eql ha]; simp
    have h2 : (FloatKind.f64.format.order a b == some Ordering.eq) = true := by rw [ha.eql hb]; simp
    clear ha hb
    go_enter Tryd.func6, Tryd.ntmps6
    go_wp2
    go_ret
    exact ⟨rfl, rfl⟩
  · have h1 : (FloatKind.f64.format.order a a != some Ordering.eq) = true := by rw [show FloatKind.f64.format.order a a = none from ha.order a]; rfl
    have h2 : (FloatKind.f64.format.order b b != some Ordering.eq) = true := by rw [show FloatKind.f64.format.order b b = none from hb.order b]; rfl
    clear ha hb
    go_enter Tryd.func6, Tryd.ntmps6
    go_wp2
    go_ret
    exact ⟨rfl, rfl⟩
theorem alike_refl {x : Nat} (h : x < 18446744073709551616) : Alike x x := by
  rcases num_or_nan h with ⟨z, hz⟩ | hn
  · exact .inl ⟨z, hz, hz⟩
  · exact .inr ⟨hn, hn⟩
/-- one dimension, as the walk meets it -/
theorem mono_dim (k : Nat) (hk : k ≤ 20) (s : Nat) (hs : s = (1023 + k) * 4503599627370496) {a b p q : Nat} (ha : ∃ z, Num a z) (hb : ∃ z, Num b z) (hab : (FloatKind.f64.format.order a b == some Ordering.lt || FloatKind.f64.format.order a b == some Ordering.eq) = true) (hp : Coord k a p) (hq : Coord k b q) :
    ∃ A B L M E1 E2 R : Bool, (FloatKind.f64.format.order p q == some Ordering.lt) = R ∧ (R || (FloatKind.f64.format.order p q == some Ordering.eq)) = true ∧
    (FloatKind.f64.format.order p 4607182418800017408 == some Ordering.eq) = A ∧ (FloatKind.f64.format.order a s == some Ordering.gt || FloatKind.f64.format.order a s == some Ordering.eq) = A ∧
    (FloatKind.f64.format.order q 4607182418800017408 == some Ordering.eq) = B ∧ (FloatKind.f64.format.order b s == some Ordering.gt || FloatKind.f64.format.order b s == some Ordering.eq) = B ∧
    (FloatKind.f64.format.order a b == some Ordering.lt) = L ∧ (FloatKind.f64.format.order b s == some Ordering.lt) = M ∧ exB a = E1 ∧ exB b = E2 ∧ (L = true → M = true → E1 = true → E2 = true → R = true) := by
  subst hs
  obtain ⟨za, ha⟩ := ha
  obtain ⟨zb, hb⟩ := hb
  have hz : za ≤ zb := by rw [ha.leq hb] at hab; exact of_decide_eq_true hab
  rcases hp with ⟨z1, h1, hp⟩ | ⟨h1, _⟩
  · rcases hq with ⟨z2, h2, hq⟩ | ⟨h2, _⟩
    · have e1 : z1 = za := by
        have := h1.eql ha
        rw [ha.eql ha] at this
        simpa using this
      have e2 : z2 = zb := by
        have := h2.eql hb
        rw [hb.eql hb] at this
        simpa using this
      subst e1 e2
      obtain ⟨l1, l2, l3, l4⟩ := mono_law k hk ha hb hp hq hz
      exact ⟨_, _, _, _, _, _, _, rfl, l1, rfl, l2.symm, rfl, l3.symm, rfl, rfl, rfl, rfl, l4⟩
    · exact (hb.not_nan h2).elim
  · exact (ha.not_nan h1).elim

theorem blocks3 {w w2 : World} {P p0 p1 p2 a3 : Nat} (q0 q1 q2 b3 a0 a1 a2 b0 b1 b2 : Nat) (hB : Below w.heap.size w w2) (h12 : P < w2.heap.size) (hp0 : w2.cell? ⟨P, 0, none⟩ = some (.float .f64 p0)) (hp1 : w2.cell? ⟨P, 1, none⟩ = some (.float .f64 p1)) (hp2 : w2.cell? ⟨P, 2, none⟩ = some (.float .f64 p2)) (hp3 : w2.cell? ⟨P, 3, none⟩ = some (.float .f64 a3)) :
    ∃ wl, (((w2.alloc (.cells #[.float .f64 q0, .float .f64 q1, .float .f64 q2, .float .f64 b3] 23)).alloc (.cells #[.float .f64 a0, .float .f64 a1, .float .f64 a2] 25)).alloc (.cells #[.float .f64 b0, .float .f64 b1, .float .f64 b2] 25)) = wl ∧ Below w.heap.size w wl ∧ wl.cell? ⟨P, 0, none⟩ = some (.float .f64 p0) ∧ wl.cell? ⟨P, 1, none⟩ = some (.float .f64 p1) ∧ wl.cell? ⟨P, 2, none⟩ = some (.float .f64 p2) ∧ wl.cell? ⟨P, 3, none⟩ = some (.float .f64 a3) ∧ wl.cell? ⟨w2.heap.size, 0, none⟩ = some (.float .f64 q0) ∧ wl.cell? ⟨w2.heap.size, 1, none⟩ = some (.float .f64 q1) ∧ wl.cell? ⟨w2.heap.size, 2, none⟩ = some (.float .f64 q2) ∧ wl.cell? ⟨w2.heap.size, 3, none⟩ = some (.float .f64 b3) ∧ wl.cell? ⟨w2.heap.size + 1, 0, none⟩ = some (.float .f64 a0) ∧ wl.cell? ⟨w2.heap.size + 1, 1, none⟩ = some (.float .f64 a1) ∧ wl.cell? ⟨w2.heap.size + 1, 2, none⟩ = some (.float .f64 a2) ∧ wl.cell? ⟨w2.heap.size + 1 + 1, 0, none⟩ = some (.float .f64 b0) ∧ wl.cell? ⟨w2.heap.size + 1 + 1, 1, none⟩ = some (.float .f64 b1) ∧ wl.cell? ⟨w2.heap.size + 1 + 1, 2, none⟩ = some (.float .f64 b2) := by
  have old : ∀ j, (((w2.alloc (.cells #[.float .f64 q0, .float .f64 q1, .float .f64 q2, .float .f64 b3] 23)).alloc (.cells #[.float .f64 a0, .float .f64 a1, .float .f64 a2] 25)).alloc (.cells #[.float .f64 b0, .float .f64 b1, .float .f64 b2] 25)).cell? ⟨P, j, none⟩ = w2.cell? ⟨P, j, none⟩ := fun j => by
    rw [World.cell?_alloc_past _ _ _ (by simp; omega), World.cell?_alloc_past _ _ _ (by simp; omega), World.cell?_alloc_past _ _ _ h12]
  have hle := hB.size
  have hbl : Below w.heap.size w (((w2.alloc (.cells #[.float .f64 q0, .float .f64 q1, .float .f64 q2, .float .f64 b3] 23)).alloc (.cells #[.float .f64 a0, .float .f64 a1, .float .f64 a2] 25)).alloc (.cells #[.float .f64 b0, .float .f64 b1, .float .f64 b2] 25)) := ((hB.alloc hle _).alloc (by simp; omega) _).alloc (by simp; omega) _
  have q' : ∀ j, (((w2.alloc (.cells #[.float .f64 q0, .float .f64 q1, .float .f64 q2, .float .f64 b3] 23)).alloc (.cells #[.float .f64 a0, .float .f64 a1, .float .f64 a2] 25)).alloc (.cells #[.float .f64 b0, .float .f64 b1, .float .f64 b2] 25)).cell? ⟨w2.heap.size, j, none⟩ = #[Value.float .f64 q0, .float .f64 q1, .float .f64 q2, .float .f64 b3][j]? := fun j => by
    rw [World.cell?_alloc_past _ _ _ (by simp; omega), World.cell?_alloc_past _ _ _ (by simp), World.cell?_alloc_at _ _ _ _ rfl]
  have a' : ∀ j, (((w2.alloc (.cells #[.float .f64 q0, .float .f64 q1, .float .f64 q2, .float .f64 b3] 23)).alloc (.cells #[.float .f64 a0, .float .f64 a1, .float .f64 a2] 25)).alloc (.cells #[.float .f64 b0, .float .f64 b1, .float .f64 b2] 25)).cell? ⟨w2.heap.size + 1, j, none⟩ = #[Value.float .f64 a0, .float .f64 a1, .float .f64 a2][j]? := fun j => by
    rw [World.cell?_alloc_past _ _ _ (by simp), World.cell?_alloc_at _ _ _ _ (by simp)]
  have b' : ∀ j, (((w2.alloc (.cells #[.float .f64 q0, .float .f64 q1, .float .f64 q2, .float .f64 b3] 23)).alloc (.cells #[.float .f64 a0, .float .f64 a1, .float .f64 a2] 25)).alloc (.cells #[.float .f64 b0, .float .f64 b1, .float .f64 b2] 25)).cell? ⟨w2.heap.size + 1 + 1, j, none⟩ = #[Value.float .f64 b0, .float .f64 b1, .float .f64 b2][j]? := fun j => by
    rw [World.cell?_alloc_at _ _ _ _ (by simp)]
  exact ⟨_, rfl, hbl, (old 0).trans hp0, (old 1).trans hp1, (old 2).trans hp2, (old 3).trans hp3, q' 0, q' 1, q' 2, q' 3, a' 0, a' 1, a' 2, b' 0, b' 1, b' 2⟩

set_option maxHeartbeats 6400000 in
set_option maxRecDepth 20000 in
theorem mono_any (a0 a1 a2 a3 b0 b1 b2 b3 : Nat) (ha0 : a0 < 18446744073709551616) (ha1 : a1 < 18446744073709551616) (ha2 : a2 < 18446744073709551616) (ha3 : a3 < 18446744073709551616) (hb0 : b0 < 18446744073709551616) (hb1 : b1 < 18446744073709551616) (hb2 : b2 < 18446744073709551616) (hb3 : b3 < 18446744073709551616) (w : World) (hs : Scales w) :
    Calls Tryd.prog 4 #[.float .f64 a0, .float .f64 a1, .float .f64 a2, .float .f64 a3, .float .f64 b0, .float .f64 b1, .float .f64 b2, .float .f64 b3] w fun e w' => e = .returned (.bool true) ∧ Below w.heap.size w w' := by
  have hst : ∀ (a : Addr) (x : Nat) (m : Mode) (w : World), (store a (.float .f64 x) m).run Tryd.prog w = stored Tryd.prog w a (.float .f64 x) m := fun a x m w => run_store Tryd.prog w a _ m rfl
  have hpw : 0 < w.heap.size := block_lt_of_cell hs.1
  have nd : ∀ {x y : Nat}, x < 18446744073709551616 → y < 18446744073709551616 → (FloatKind.f64.format.order x y == some Ordering.lt || FloatKind.f64.format.order x y == some Ordering.eq) = true → (∃ z, Num x z) ∧ ∃ z, Num y z := fun hx hy h => num_of_order hx hy (fun e => by
    have e : FloatKind.f64.format.order _ _ = none := e
    rw [e] at h
    cases h)
  cases g0 : (FloatKind.f64.format.order a0 b0 == some Ordering.lt || FloatKind.f64.format.order a0 b0 == some Ordering.eq) with
  | false =>
    clear nd
    go_enter Tryd.func4, Tryd.ntmps4
    go_wp2
    go_ret
    exact ⟨rfl, Below.refl _ _⟩
  | true =>
  cases g1 : (FloatKind.f64.format.order a1 b1 == some Ordering.lt || FloatKind.f64.format.order a1 b1 == some Ordering.eq) with
  | false =>
    clear nd
    go_enter Tryd.func4, Tryd.ntmps4
    go_wp2
    go_ret
    exact ⟨rfl, Below.refl _ _⟩
  | true =>
  cases g2 : (FloatKind.f64.format.order a2 b2 == some Ordering.lt || FloatKind.f64.format.order a2 b2 == some Ordering.eq) with
  | false =>
    clear nd
    go_enter Tryd.func4, Tryd.ntmps4
    go_wp2
    go_ret
    exact ⟨rfl, Below.refl _ _⟩
  | true =>
  have N0 := Lib.hid (nd ha0 hb0 g0)
  have N1 := Lib.hid (nd ha1 hb1 g1)
  have N2 := Lib.hid (nd ha2 hb2 g2)
  have G0 := Lib.hid g0
  have G1 := Lib.hid g1
  have G2 := Lib.hid g2
  have C1 := Lib.hid (zzpoint5 a0 a1 a2 a3 ha0 ha1 ha2 w hs)
  clear nd
  go_enter Tryd.func4, Tryd.ntmps4
  go_wp2_with (go_at_call 5; refine Calls.mono C1.out ?_; rintro e w1 ⟨p0, p1, p2, rfl, hF1, hB1⟩; refine Hid.out ?_)
  refine Lib.hid ?_
  have hpw1 : 0 < w1.heap.size := Nat.lt_of_lt_of_le hpw hB1.size
  have hsa : Scales (w1.alloc (.cells #[.float .f64 p0, .float .f64 p1, .float .f64 p2, .float .f64 a3] 23)) := (hs.below hB1 hpw).below ((Below.refl w1.heap.size w1).alloc (Nat.le_refl _) _) hpw1
  have C2 := Lib.hid (zzpoint5 b0 b1 b2 b3 hb0 hb1 hb2 _ hsa)
  have F1 := Lib.hid hF1
  have B1 := Lib.hid hB1
  clear hsa hF1 hB1 hs g0 g1 g2 C1
  go_wp2_with (go_at_call 5; refine Calls.mono C2.out ?_; rintro e w2 ⟨q0, q1, q2, rfl, hF2, hB2⟩; refine Hid.out ?_)
  refine Lib.hid ?_
  have hsz : (w1.alloc (.cells #[.float .f64 p0, .float .f64 p1, .float .f64 p2, .float .f64 a3] 23)).heap.size = w1.heap.size + 1 := by simp
  have hw12 : w1.heap.size < w2.heap.size := by have := hB2.size; omega
  have hcp : ∀ j v, #[Value.float .f64 p0, .float .f64 p1, .float .f64 p2, .float .f64 a3][j]? = some v → w2.cell? ⟨w1.heap.size, j, none⟩ = some v := fun j v hj => by
    rw [hB2.cell (p := ⟨w1.heap.size, j, none⟩) (by rw [hsz]; exact Nat.lt_succ_self _)]
    simpa using hj
  have hp0 : w2.cell? ⟨w1.heap.size, 0, none⟩ = some (.float .f64 p0) := hcp 0 _ rfl
  have hp1 : w2.cell? ⟨w1.heap.size, 1, none⟩ = some (.float .f64 p1) := hcp 1 _ rfl
  have hp2 : w2.cell? ⟨w1.heap.size, 2, none⟩ = some (.float .f64 p2) := hcp 2 _ rfl
  have hp3 : w2.cell? ⟨w1.heap.size, 3, none⟩ = some (.float .f64 a3) := hcp 3 _ rfl
  have hbb : Below w.heap.size w w2 := B1.out.trans (((Below.refl w1.heap.size w1).alloc (Nat.le_refl _) (.cells #[.float .f64 p0, .float .f64 p1, .float .f64 p2, .float .f64 a3] 23)).trans (hB2.mono (by omega)) |>.mono B1.out.size)
  have F2 := Lib.hid hF2
  have B2 := Lib.hid hbb
  clear hcp hsz hF2 hB2 hbb B1 C2
  have hex := blocks3 q0 q1 q2 b3 a0 a1 a2 b0 b1 b2 B2.out hw12 hp0 hp1 hp2 hp3
  obtain ⟨wl, hwl, hbl, c0, c1, c2, c3, c4, c5, c6, c7, c8, c9, c10, c11, c12, c13⟩ := hex
  go_wp2
  have BL := Lib.hid hbl
  clear hwl hbl hp0 hp1 hp2 hp3 B2
  generalize w1.heap.size = bp at *
  generalize w2.heap.size + 1 + 1 = bb at *
  generalize w2.heap.size + 1 = ba at *
  generalize w2.heap.size = bq at *
  go_loopw [21] (fun i wr => ∃ d nn : Nat, i = .int .i64 d ∧ (d = 0 ∨ d = 1 ∨ d = 2 ∨ d = 3) ∧ wr = wl.drewN nn) (fun i _ => 3 - (RowKit.intOf i).toNat)
  case atStart => exact ⟨0, 0, rfl, .inl rfl, rfl⟩
  case round =>
    obtain ⟨d, nn, rfl, hd, rfl⟩ := hrel
    rcases hd with rfl | rfl | rfl | rfl
    · obtain ⟨A, B, L, M, E1, E2, R, t1, t2, t3, t4, t5, t6, t7, t8, t9, t10, t11⟩ := mono_dim 2 (by decide) 4616189618054758400 (by decide) N0.out.1 N0.out.2 G0.out (by rcases F1.out with h | h | h | h <;> first | exact h.2.1 | (exact absurd h.1 (by decide))) (by rcases F2.out with h | h | h | h <;> first | exact h.2.1 | (exact absurd h.1 (by decide)))
      have T := Lib.hid t11
      clear t11
      go_wp2
      go_quiet (fail)
      go_wp2
      have hcase : L = false ∨ (L = true ∧ M = false) ∨ (L = true ∧ M = true ∧ E1 = false) ∨ (L = true ∧ M = true ∧ E1 = true ∧ E2 = false) ∨ (L = true ∧ M = true ∧ E1 = true ∧ E2 = true ∧ R = true) := by
        have := T.out
        revert this
        cases L <;> cases M <;> cases E1 <;> cases E2 <;> cases R <;> decide
      clear T
      rcases hcase with rfl | ⟨rfl, rfl⟩ | ⟨rfl, rfl, rfl⟩ | ⟨rfl, rfl, rfl, rfl⟩ | ⟨rfl, rfl, rfl, rfl, rfl⟩
      · go_quiet (fail)
        go_wp2
        go_roundw
        case rel => exact ⟨1, _, rfl, .inr (.inl rfl), rfl⟩
        case measure => decide
      · go_quiet (fail)
        go_wp2
        go_roundw
        case rel => exact ⟨1, _, rfl, .inr (.inl rfl), rfl⟩
        case measure => decide
      · go_quiet ((go_at_call 9; exact (exact9 _ _).mono fun _ _ h => ⟨h.1, _, h.2⟩))
        go_wp2
        go_roundw
        case rel => exact ⟨1, _, rfl, .inr (.inl rfl), rfl⟩
        case measure => decide
      · go_quiet ((go_at_call 9; exact (exact9 _ _).mono fun _ _ h => ⟨h.1, _, h.2⟩))
        go_wp2
        go_roundw
        case rel => exact ⟨1, _, rfl, .inr (.inl rfl), rfl⟩
        case measure => decide
      · go_quiet ((go_at_call 9; exact (exact9 _ _).mono fun _ _ h => ⟨h.1, _, h.2⟩))
        go_wp2
        go_roundw
        case rel => exact ⟨1, _, rfl, .inr (.inl rfl), rfl⟩
        case measure => decide
    · obtain ⟨A, B, L, M, E1, E2, R, t1, t2, t3, t4, t5, t6, t7, t8, t9, t10, t11⟩ := mono_dim 16 (by decide) 4679240012837945344 (by decide) N1.out.1 N1.out.2 G1.out (by rcases F1.out with h | h | h | h <;> first | exact h.2.2.1 | (exact absurd h.1 (by decide))) (by rcases F2.out with h | h | h | h <;> first | exact h.2.2.1 | (exact absurd h.1 (by decide)))
      have T := Lib.hid t11
      clear t11
      go_wp2
      go_quiet (fail)
      go_wp2
      have hcase : L = false ∨ (L = true ∧ M = false) ∨ (L = true ∧ M = true ∧ E1 = false) ∨ (L = true ∧ M = true ∧ E1 = true ∧ E2 = false) ∨ (L = true ∧ M = true ∧ E1 = true ∧ E2 = true ∧ R = true) := by
        have := T.out
        revert this
        cases L <;> cases M <;> cases E1 <;> cases E2 <;> cases R <;> decide
      clear T
      rcases hcase with rfl | ⟨rfl, rfl⟩ | ⟨rfl, rfl, rfl⟩ | ⟨rfl, rfl, rfl, rfl⟩ | ⟨rfl, rfl, rfl, rfl, rfl⟩
      · go_quiet (fail)
        go_wp2
        go_roundw
        case rel => exact ⟨2, _, rfl, .inr (.inr (.inl rfl)), rfl⟩
        case measure => decide
      · go_quiet (fail)
        go_wp2
        go_roundw
        case rel => exact ⟨2, _, rfl, .inr (.inr (.inl rfl)), rfl⟩
        case measure => decide
      · go_quiet ((go_at_call 9; exact (exact9 _ _).mono fun _ _ h => ⟨h.1, _, h.2⟩))
        go_wp2
        go_roundw
        case rel => exact ⟨2, _, rfl, .inr (.inr (.inl rfl)), rfl⟩
        case measure => decide
      · go_quiet ((go_at_call 9; exact (exact9 _ _).mono fun _ _ h => ⟨h.1, _, h.2⟩))
        go_wp2
        go_roundw
        case rel => exact ⟨2, _, rfl, .inr (.inr (.inl rfl)), rfl⟩
        case measure => decide
      · go_quiet ((go_at_call 9; exact (exact9 _ _).mono fun _ _ h => ⟨h.1, _, h.2⟩))
        go_wp2
        go_roundw
        case rel => exact ⟨2, _, rfl, .inr (.inr (.inl rfl)), rfl⟩
        case measure => decide
    · obtain ⟨A, B, L, M, E1, E2, R, t1, t2, t3, t4, t5, t6, t7, t8, t9, t10, t11⟩ := mono_dim 12 (by decide) 4661225614328463360 (by decide) N2.out.1 N2.out.2 G2.out (by rcases F1.out with h | h | h | h <;> first | exact h.2.2.2 | (exact absurd h.1 (by decide))) (by rcases F2.out with h | h | h | h <;> first | exact h.2.2.2 | (exact absurd h.1 (by decide)))
      have T := Lib.hid t11
      clear t11
      go_wp2
      go_quiet (fail)
      go_wp2
      have hcase : L = false ∨ (L = true ∧ M = false) ∨ (L = true ∧ M = true ∧ E1 = false) ∨ (L = true ∧ M = true ∧ E1 = true ∧ E2 = false) ∨ (L = true ∧ M = true ∧ E1 = true ∧ E2 = true ∧ R = true) := by
        have := T.out
        revert this
        cases L <;> cases M <;> cases E1 <;> cases E2 <;> cases R <;> decide
      clear T
      rcases hcase with rfl | ⟨rfl, rfl⟩ | ⟨rfl, rfl, rfl⟩ | ⟨rfl, rfl, rfl, rfl⟩ | ⟨rfl, rfl, rfl, rfl, rfl⟩
      · go_quiet (fail)
        go_wp2
        go_roundw
        case rel => exact ⟨3, _, rfl, .inr (.inr (.inr rfl)), rfl⟩
        case measure => decide
      · go_quiet (fail)
        go_wp2
        go_roundw
        case rel => exact ⟨3, _, rfl, .inr (.inr (.inr rfl)), rfl⟩
        case measure => decide
      · go_quiet ((go_at_call 9; exact (exact9 _ _).mono fun _ _ h => ⟨h.1, _, h.2⟩))
        go_wp2
        go_roundw
        case rel => exact ⟨3, _, rfl, .inr (.inr (.inr rfl)), rfl⟩
        case measure => decide
      · go_quiet ((go_at_call 9; exact (exact9 _ _).mono fun _ _ h => ⟨h.1, _, h.2⟩))
        go_wp2
        go_roundw
        case rel => exact ⟨3, _, rfl, .inr (.inr (.inr rfl)), rfl⟩
        case measure => decide
      · go_quiet ((go_at_call 9; exact (exact9 _ _).mono fun _ _ h => ⟨h.1, _, h.2⟩))
        go_wp2
        go_roundw
        case rel => exact ⟨3, _, rfl, .inr (.inr (.inr rfl)), rfl⟩
        case measure => decide
    · go_wp2_with (go_at_call 6; refine (same6 a3 a3 _ (alike_refl ha3)).mono ?_; rintro e w' ⟨rfl, rfl⟩; refine Hid.out ?_)
      refine Lib.hid ?_
      go_wp2_with (go_at_call 6; refine (same6 b3 b3 _ (alike_refl hb3)).mono ?_; rintro e w' ⟨rfl, rfl⟩; refine Hid.out ?_)
      refine Lib.hid ?_
      go_wp2
      go_ret
      exact ⟨rfl, below_drewN BL.out _⟩
end Go.Proofs.Qxb6615722aDoor
