import Derived.Test.Qxb6615722aDoorFl
import Derived.WalkKit
import Derived.ProofKit
import Derived.Below
import Derived.Lib.Hide
import Derived.Deep.MidRow
import Derived.Deep.WholeRow
import Derived.Handy
namespace Go.Proofs.Qxb6615722aDoor
open Go.RowKit

theorem coord_run (k : Nat) (hk : k ≤ 20) {x : Nat} (hx : x < 18446744073709551616) : ∃ (n : Nat) (q : World → Nat) (y : World → World → Nat),
    (∀ (t : TypeId) (w : World), (binOp .quo t (.float .f64 x) (.float .f64 ((1023 + k) * 4503599627370496))).run Tryd.prog w = .ok (.float .f64 (q w)) (w.drewN n)) ∧
    (∀ (w0 : World) (ts : Array TypeId) (t : TypeId) (w : World), (Builtin.min_ ts t #[.float .f64 (q w0), .float .f64 4607182418800017408]).run Tryd.prog w = .ok (.float .f64 (y w0 w)) (w.drewN n)) ∧
    ∀ w0 w, Coord k x (y w0 w) := by
  rcases num_or_nan hx with ⟨z, hz⟩ | hn
  · obtain ⟨d, hd, hdn⟩ := hz.div k hk
    obtain ⟨y, hy, hr⟩ := run_min_num (P := Tryd.prog) hdn
    exact ⟨0, fun _ => d, fun _ _ => y, fun t w => run_quo_num hd t w, fun _ ts t w => hr ts t w, fun _ _ => .inl ⟨z, hz, hy⟩⟩
  · exact ⟨1, nanQ _, fun w0 => nanQ _, fun t w => run_quo_nan hn _ t w, fun w0 ts t w => run_min_nan (nanQ_quo x _ w0) _ ts t w, fun w0 w => .inr ⟨hn, nanQ_min _ _ w⟩⟩

/-- the scales lie as the text lays them -/
def Scales (w : World) : Prop := w.cell? ⟨0, 0, none⟩ = some (.float .f64 4616189618054758400) ∧ w.cell? ⟨0, 1, none⟩ = some (.float .f64 4679240012837945344) ∧ w.cell? ⟨0, 2, none⟩ = some (.float .f64 4661225614328463360)
/-- how far the loop has come -/
def Far (d x0 x1 x2 c0 c1 c2 : Nat) : Prop :=
  (d = 0 ∧ c0 = x0 ∧ c1 = x1 ∧ c2 = x2) ∨ (d = 1 ∧ Coord 2 x0 c0 ∧ c1 = x1 ∧ c2 = x2) ∨ (d = 2 ∧ Coord 2 x0 c0 ∧ Coord 16 x1 c1 ∧ c2 = x2) ∨ (d = 3 ∧ Coord 2 x0 c0 ∧ Coord 16 x1 c1 ∧ Coord 12 x2 c2)

theorem scale_at (w : World) : (Instr.index 25 (.agg #[.float .f64 4616189618054758400, .float .f64 4679240012837945344, .float .f64 4661225614328463360]) (.int .i64 0)).run Tryd.prog w = .ok (.float .f64 4616189618054758400) w ∧
    (Instr.index 25 (.agg #[.float .f64 4616189618054758400, .float .f64 4679240012837945344, .float .f64 4661225614328463360]) (.int .i64 1)).run Tryd.prog w = .ok (.float .f64 4679240012837945344) w ∧
    (Instr.index 25 (.agg #[.float .f64 4616189618054758400, .float .f64 4679240012837945344, .float .f64 4661225614328463360]) (.int .i64 2)).run Tryd.prog w = .ok (.float .f64 4661225614328463360) w :=
  ⟨by kernel_rfl, by kernel_rfl, by kernel_rfl⟩

theorem below_drewN {B : Nat} {a w : World} (h : Below B a w) (n : Nat) : Below B a (w.drewN n) := ⟨h.os, h.tape, h.output, h.size, h.block⟩

set_option maxHeartbeats 1600000 in
theorem point12 (x0 x1 x2 x3 : Nat) (h0 : x0 < 18446744073709551616) (h1 : x1 < 18446744073709551616) (h2 : x2 < 18446744073709551616) (w : World) (hs : Scales w) :
    Calls Tryd.prog 12 #[.float .f64 x0, .float .f64 x1, .float .f64 x2, .float .f64 x3] w fun e w' => ∃ y0 y1 y2, e = .returned (.agg #[.float .f64 y0, .float .f64 y1, .float .f64 y2, .float .f64 x3]) ∧ Far 3 x0 x1 x2 y0 y1 y2 ∧ Below w.heap.size w w' := by
  have hst : ∀ (a : Addr) (x : Nat) (m : Mode) (w : World), (store a (.float .f64 x) m).run Tryd.prog w = stored Tryd.prog w a (.float .f64 x) m := fun a x m w => run_store Tryd.prog w a _ m rfl
  have hsd : ∀ (w : World) (n : Nat) (a : Addr) (v : Value), (w.drewN n).setCell a v = (w.setCell a v).drewN n := fun w n a v => rfl
  obtain ⟨hs0, hs1, hs2⟩ := hs
  have hi0 := fun w => (scale_at w).1
  have hi1 := fun w => (scale_at w).2.1
  have hi2 := fun w => (scale_at w).2.2
  have hp : 0 < w.heap.size := block_lt_of_cell hs0
  obtain ⟨n0, q0, y0, hq0, hm0, HY0⟩ := coord_run 2 (by decide) h0
  obtain ⟨n1, q1, y1, hq1, hm1, HY1⟩ := coord_run 16 (by decide) h1
  obtain ⟨n2, q2, y2, hq2, hm2, HY2⟩ := coord_run 12 (by decide) h2
  have H0 := Lib.hid HY0
  have H1 := Lib.hid HY1
  have H2 := Lib.hid HY2
  clear HY0 HY1 HY2
  have hq0 : ∀ (t : TypeId) (w : World), (binOp .quo t (.float .f64 x0) (.float .f64 4616189618054758400)).run Tryd.prog w = .ok (.float .f64 (q0 w)) (w.drewN n0) := hq0
  have hq1 : ∀ (t : TypeId) (w : World), (binOp .quo t (.float .f64 x1) (.float .f64 4679240012837945344)).run Tryd.prog w = .ok (.float .f64 (q1 w)) (w.drewN n1) := hq1
  have hq2 : ∀ (t : TypeId) (w : World), (binOp .quo t (.float .f64 x2) (.float .f64 4661225614328463360)).run Tryd.prog w = .ok (.float .f64 (q2 w)) (w.drewN n2) := hq2
  go_enter Tryd.func12, Tryd.ntmps12
  go_wp2
  go_loopw [18] (fun i wr => ∃ d c0 c1 c2 nn : Nat, i = .int .i64 d ∧ wr = (((w.alloc (.cells #[.float .f64 0, .float .f64 0, .float .f64 0, .float .f64 0] 43)).alloc (.cells #[.float .f64 c0, .float .f64 c1, .float .f64 c2, .float .f64 x3] 43)).drewN nn) ∧ Hid (Far d x0 x1 x2 c0 c1 c2)) (fun i _ => 3 - (RowKit.intOf i).toNat)
  case atStart => exact ⟨0, x0, x1, x2, 0, rfl, rfl, .inl ⟨rfl, rfl, rfl, rfl⟩⟩
  case round =>
    obtain ⟨d, c0, c1, c2, nn, rfl, rfl, HF⟩ := hrel
    rcases HF.out with ⟨rfl, rfl, rfl, rfl⟩ | ⟨rfl, hc0, rfl, rfl⟩ | ⟨rfl, hc0, hc1, rfl⟩ | ⟨rfl, hc0, hc1, hc2⟩
    · clear HF
      go_wp2
      go_roundw
      case rel => exact ⟨1, _, _, _, _, rfl, rfl, .inr (.inl ⟨rfl, H0.out _ _, rfl, rfl⟩)⟩
      case measure => decide
    · have G0 := Lib.hid hc0
      clear HF hc0
      go_wp2
      go_roundw
      case rel => exact ⟨2, _, _, _, _, rfl, rfl, .inr (.inr (.inl ⟨rfl, G0.out, H1.out _ _, rfl⟩))⟩
      case measure => decide
    · have G0 := Lib.hid hc0
      have G1 := Lib.hid hc1
      clear HF hc0 hc1
      go_wp2
      go_roundw
      case rel => exact ⟨3, _, _, _, _, rfl, rfl, .inr (.inr (.inr ⟨rfl, G0.out, G1.out, H2.out _ _⟩))⟩
      case measure => decide
    · clear hc0 hc1 hc2
      go_wp2
      go_returns
      exact ⟨c0, c1, c2, rfl, HF.out, below_drewN ((((Below.refl _ _).alloc (Nat.le_refl _) _).alloc (by simp) _)) _⟩
end Go.Proofs.Qxb6615722aDoor
