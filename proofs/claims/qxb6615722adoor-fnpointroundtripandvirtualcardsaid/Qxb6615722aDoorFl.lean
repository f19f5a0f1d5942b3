/-
  What the model's float operations give on doubles, as signed rungs.
-/
import Derived.Test.Qxb6615722aDoorProg
import Derived.Test.Qxb6615722aDoorNum
import Derived.Laws.FloatArith
import Derived.RowKit
import Derived.Deep.Draws
namespace Go.Proofs.Qxb6615722aDoor
open Ieee

def IsNaN (x : Nat) : Prop := ∃ s f, double.read x = .nan s f
theorem num_or_nan {x : Nat} (h : x < 18446744073709551616) : (∃ z, Num x z) ∨ IsNaN x := by
  have hx : ∃ s r, r < 9223372036854775808 ∧ x = double.word s r := by
    by_cases h1 : x < 9223372036854775808
    · exact ⟨false, x, h1, rfl⟩
    · refine ⟨true, x - 9223372036854775808, by omega, ?_⟩
      show x = double.signWeight + _
      rw [signWeight_eq]
      omega
  obtain ⟨s, r, hr, rfl⟩ := hx
  by_cases h2 : r ≤ 9218868437227405312
  · exact .inl ⟨_, s, r, rfl, h2, rfl⟩
  · refine .inr ⟨s, r - 9218868437227405312, ?_⟩
    rw [read_word s hr]
    unfold datum
    rw [if_neg (by omega), if_neg (by omega), if_neg (by omega)]
theorem IsNaN.order {x : Nat} (h : IsNaN x) (y : Nat) : double.order x y = none := by
  obtain ⟨s, f, h⟩ := h
  unfold Format.order
  rw [h]
  rfl
theorem IsNaN.order' {x : Nat} (h : IsNaN x) (y : Nat) : double.order y x = none := by
  obtain ⟨s, f, h⟩ := h
  unfold Format.order
  rw [h]
  cases double.read y <;> rfl
theorem IsNaN.div {x : Nat} (h : IsNaN x) (y : Nat) : double.div x y = none := by
  obtain ⟨s, f, h⟩ := h
  unfold Format.div
  rw [h]
  rfl
theorem Num.not_nan {x : Nat} {z : Int} (h : Num x z) (h' : IsNaN x) : False := by
  have := h.order h
  rw [h'.order] at this
  cases this
theorem num_of_order {x y : Nat} (hx : x < 18446744073709551616) (hy : y < 18446744073709551616) (h : double.order x y ≠ none) : (∃ z, Num x z) ∧ ∃ z, Num y z := by
  constructor
  · rcases num_or_nan hx with h1 | h1
    · exact h1
    · exact absurd (h1.order y) h
  · rcases num_or_nan hy with h1 | h1
    · exact h1
    · exact absurd (h1.order' x) h
theorem nan_bits (a t : Nat) : IsNaN ((a % 2) * 2 ^ 63 + 0x7ff0000000000000 + 1 + t % (2 ^ 52 - 1)) := by
  have ht : t % (2 ^ 52 - 1) < 2 ^ 52 - 1 := Nat.mod_lt _ (by decide)
  generalize t % (2 ^ 52 - 1) = u at *
  have hw : (a % 2) * 2 ^ 63 + 0x7ff0000000000000 + 1 + u = double.word (a % 2 == 1) (9218868437227405313 + u) := by
    unfold Format.word
    rw [signWeight_eq]
    rcases Nat.mod_two_eq_zero_or_one a with e | e
    · rw [e]; simp
    · rw [e]; simp; omega
  rw [hw]
  refine ⟨a % 2 == 1, 9218868437227405313 + u - 9218868437227405312, ?_⟩
  rw [read_word _ (by omega)]
  unfold datum
  rw [if_neg (by omega), if_neg (by omega), if_neg (by omega)]

/-- the quotient's signed rung -/
def D (k : Nat) (z : Int) : Int := S (decide (z < 0)) (Q k z.natAbs)
theorem D_S (k : Nat) (s : Bool) (r : Nat) : D k (S s r) = S s (Q k r) := by
  unfold D
  by_cases h0 : r = 0
  · subst h0
    cases s <;> simp [S, Q_zero]
  · cases s
    · have : ¬ (S false r < 0) := by simp [S]
      simp only [this, decide_false]
      simp [S]
    · have : S true r < 0 := by simp [S]; omega
      simp only [this, decide_true]
      simp [S]
theorem Q_inf (k : Nat) (hk : k ≤ 20) : Q k 9218868437227405312 = 9218868437227405312 := by
  unfold Q
  rw [if_pos (by omega), if_pos rfl]
theorem Num.div {x : Nat} {z : Int} (h : Num x z) (k : Nat) (hk : k ≤ 20) : ∃ y, double.div x ((1023 + k) * 4503599627370496) = some y ∧ Num y (D k z) := by
  obtain ⟨s, r, rfl, hr, rfl⟩ := h
  refine ⟨_, div_word k hk s hr, s, Q k r, rfl, ?_, D_S k s r⟩
  have := Q_mono (k := k) hr (Nat.le_refl _)
  rwa [Q_inf k hk] at this
theorem num_word (r : Nat) (h : r ≤ 9218868437227405312) : Num r (r : Int) := ⟨false, r, rfl, h, rfl⟩

/-- the coordinate's signed rung -/
def pt (k : Nat) (z : Int) : Int := min (D k z) 4607182418800017408
/-- y is the coordinate of x by the scale 2^k -/
def Coord (k x y : Nat) : Prop := (∃ z, Num x z ∧ Num y (pt k z)) ∨ (IsNaN x ∧ IsNaN y)

section
variable {P : Program}
/-- x by the scale, in the world w: the bits and the draws -/
theorem run_quo_num {x y s : Nat} (h : double.div x s = some y) (t : TypeId) (w : World) : (binOp .quo t (.float .f64 x) (.float .f64 s)).run P w = .ok (.float .f64 y) w :=
  run_float_arith w .quo t .f64 x s y h
def nanQ (q : Question) (w : World) : Nat := q.cut (w.tape w.drawn q)
theorem nanQ_quo (x s : Nat) (w : World) : IsNaN (nanQ (.nanBits .f64 x s) w) := nan_bits _ _
theorem nanQ_min (x s : Nat) (w : World) : IsNaN (nanQ (.nanMinMax .f64 false x s) w) := nan_bits _ _
theorem run_quo_nan {x : Nat} (h : IsNaN x) (s : Nat) (t : TypeId) (w : World) : (binOp .quo t (.float .f64 x) (.float .f64 s)).run P w = .ok (.float .f64 (nanQ (.nanBits .f64 x s) w)) (w.drewN 1) := by
  have hd : FloatKind.f64.format.div x s = none := h.div s
  simp [binOp, Op.floatArith, hd, choose, Sem.run, Question.forced]
  exact ⟨rfl, rfl⟩
theorem run_min_nan {x : Nat} (h : IsNaN x) (s : Nat) (ts : Array TypeId) (t : TypeId) (w : World) : (Builtin.min_ ts t #[.float .f64 x, .float .f64 s]).run P w = .ok (.float .f64 (nanQ (.nanMinMax .f64 false x s) w)) (w.drewN 1) := by
  have hd : FloatKind.f64.format.order x s = none := h.order s
  simp [Builtin.min_, Builtin.min2, hd, choose, Sem.run, Question.forced]
  exact ⟨rfl, rfl⟩
theorem run_min_num {x : Nat} {z : Int} (h : Num x z) : ∃ y, Num y (min z 4607182418800017408) ∧ ∀ (ts : Array TypeId) (t : TypeId) (w : World), (Builtin.min_ ts t #[.float .f64 x, .float .f64 4607182418800017408]).run P w = .ok (.float .f64 y) w := by
  have ho : FloatKind.f64.format.order x 4607182418800017408 = some (compare z 4607182418800017408) := h.order (num_word 4607182418800017408 (by decide))
  rcases Int.lt_trichotomy z 4607182418800017408 with hz | hz | hz
  · refine ⟨x, by rw [Int.min_eq_left (by omega)]; exact h, fun ts t w => ?_⟩
    have hc : compare z 4607182418800017408 = .lt := by show compareOfLessAndEq _ _ = _; unfold compareOfLessAndEq; rw [if_pos hz]
    rw [hc] at ho
    simp [Builtin.min_, Builtin.min2, ho]
  · subst hz
    refine ⟨4607182418800017408, num_word 4607182418800017408 (by decide), fun ts t w => ?_⟩
    have hx : x = 4607182418800017408 := by
      obtain ⟨s, r, rfl, hr, hz⟩ := h
      cases s
      · simp only [S, Bool.false_eq_true, if_false] at hz
        show r = _
        omega
      · simp only [S, if_true] at hz
        omega
    subst hx
    have hc : compare (4607182418800017408 : Int) 4607182418800017408 = .eq := by decide
    rw [hc] at ho
    simp [Builtin.min_, Builtin.min2, ho]
  · refine ⟨4607182418800017408, by rw [Int.min_eq_right (by omega)]; exact num_word 4607182418800017408 (by decide), fun ts t w => ?_⟩
    have hc : compare z 4607182418800017408 = .gt := by show compareOfLessAndEq _ _ = _; unfold compareOfLessAndEq; rw [if_neg (by omega), if_neg (by omega)]
    rw [hc] at ho
    simp [Builtin.min_, Builtin.min2, ho]
end
end Go.Proofs.Qxb6615722aDoor
