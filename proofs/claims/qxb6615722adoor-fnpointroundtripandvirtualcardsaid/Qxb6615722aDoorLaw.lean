/-
  The plain law of a coordinate: monotone, saturating, strict where the quotient is exact. No Go in it.
-/
import Derived.Test.Qxb6615722aDoorFl
namespace Go.Proofs.Qxb6615722aDoor
open Ieee

theorem D_pos (k : Nat) {z : Int} (h : 0 ≤ z) : D k z = (Q k z.natAbs : Int) := by
  unfold D S
  have : ¬ z < 0 := by omega
  simp [this]
theorem D_neg (k : Nat) {z : Int} (h : z < 0) : D k z = -(Q k z.natAbs : Int) := by
  unfold D S
  simp [h]
theorem Q_high {k r : Nat} (h : (k + 1) * 4503599627370496 ≤ r) (hi : r ≠ 9218868437227405312) : Q k r = r - k * 4503599627370496 := by
  unfold Q
  rw [if_pos h, if_neg hi]
theorem D_mono {k : Nat} {z z' : Int} (h : z ≤ z') (h1 : -9218868437227405312 ≤ z) (h2 : z' ≤ 9218868437227405312) : D k z ≤ D k z' := by
  by_cases hz : 0 ≤ z
  · rw [D_pos k hz, D_pos k (by omega)]
    have := Q_mono (k := k) (r := z.natAbs) (r' := z'.natAbs) (by omega) (by omega)
    omega
  · rw [D_neg k (by omega)]
    by_cases hz' : 0 ≤ z'
    · rw [D_pos k hz']
      omega
    · rw [D_neg k (by omega)]
      have := Q_mono (k := k) (r := z'.natAbs) (r' := z.natAbs) (by omega) (by omega)
      omega
theorem D_top {k : Nat} (hk : k ≤ 20) {z : Int} (h2 : z ≤ 9218868437227405312) : 4607182418800017408 ≤ D k z ↔ ((1023 + k : Nat) : Int) * 4503599627370496 ≤ z := by
  by_cases hz : 0 ≤ z
  · rw [D_pos k hz]
    by_cases h1 : (k + 1) * 4503599627370496 ≤ z.natAbs
    · by_cases hi : z.natAbs = 9218868437227405312
      · rw [hi, Q_inf k hk]
        omega
      · rw [Q_high h1 hi]
        omega
    · have := Q_low (k := k) (r := z.natAbs) (by omega)
      omega
  · rw [D_neg k (by omega)]
    omega
/-- z is nought or so great that a scale divides it exactly -/
def Ex (z : Int) : Prop := z = 0 ∨ 103582791429521408 ≤ z ∨ z ≤ -103582791429521408
theorem D_exact {k : Nat} (hk : k ≤ 20) {z : Int} (he : Ex z) (h1 : -9218868437227405312 ≤ z) (h2 : z < 9218868437227405312) :
    (z = 0 ∧ D k z = 0) ∨ (103582791429521408 ≤ z ∧ D k z = z - (k : Int) * 4503599627370496) ∨ (z ≤ -103582791429521408 ∧ z ≠ -9218868437227405312 ∧ D k z = z + (k : Int) * 4503599627370496) ∨ (z = -9218868437227405312 ∧ D k z = -9218868437227405312) := by
  rcases he with rfl | he | he
  · left
    refine ⟨rfl, ?_⟩
    rw [D_pos k (by omega)]
    exact congrArg Int.ofNat (Q_zero k)
  · right; left
    refine ⟨he, ?_⟩
    rw [D_pos k (by omega), Q_high (by omega) (by omega)]
    omega
  · right; right
    by_cases hi : z = -9218868437227405312
    · right
      refine ⟨hi, ?_⟩
      rw [D_neg k (by omega), show z.natAbs = 9218868437227405312 by omega, Q_inf k hk]
      omega
    · left
      refine ⟨he, hi, ?_⟩
      rw [D_neg k (by omega), Q_high (by omega) (by omega)]
      omega
theorem D_strict {k : Nat} (hk : k ≤ 20) {z z' : Int} (h : z < z') (e : Ex z) (e' : Ex z') (h1 : -9218868437227405312 ≤ z) (h2 : z' < 9218868437227405312) : D k z < D k z' := by
  have a1 := D_exact hk e h1 (by omega)
  have a2 := D_exact hk e' (by omega) h2
  omega

theorem Num.bounds {x : Nat} {z : Int} (h : Num x z) : -9218868437227405312 ≤ z ∧ z ≤ 9218868437227405312 := by
  obtain ⟨s, r, rfl, hr, rfl⟩ := h
  cases s <;> simp only [S, Bool.false_eq_true, if_false, if_true] <;> omega

theorem cmp_lt {a b : Int} : (some (compare a b) == some Ordering.lt) = decide (a < b) := by
  show (some (compareOfLessAndEq a b) == _) = _
  unfold compareOfLessAndEq
  by_cases h : a < b
  · simp [h]
  · by_cases h2 : a = b <;> simp [h, h2]
theorem cmp_eq {a b : Int} : (some (compare a b) == some Ordering.eq) = decide (a = b) := by
  show (some (compareOfLessAndEq a b) == _) = _
  unfold compareOfLessAndEq
  by_cases h : a < b
  · have : a ≠ b := by omega
    simp [h, this]
  · by_cases h2 : a = b <;> simp [h, h2]
theorem cmp_gt {a b : Int} : (some (compare a b) == some Ordering.gt) = decide (b < a) := by
  show (some (compareOfLessAndEq a b) == _) = _
  unfold compareOfLessAndEq
  by_cases h : a < b
  · have : ¬ b < a := by omega
    simp [h, this]
  · by_cases h2 : a = b
    · simp [h2]
    · have : b < a := by omega
      simp [h, h2, this]

/-- the six looks of the program, on two numbers -/
theorem Num.lss {x y : Nat} {z z' : Int} (h : Num x z) (h' : Num y z') : (FloatKind.f64.format.order x y == some Ordering.lt) = decide (z < z') := by
  rw [show FloatKind.f64.format.order x y = some (compare z z') from h.order h', cmp_lt]
theorem Num.eql {x y : Nat} {z z' : Int} (h : Num x z) (h' : Num y z') : (FloatKind.f64.format.order x y == some Ordering.eq) = decide (z = z') := by
  rw [show FloatKind.f64.format.order x y = some (compare z z') from h.order h', cmp_eq]
theorem Num.leq {x y : Nat} {z z' : Int} (h : Num x z) (h' : Num y z') : (FloatKind.f64.format.order x y == some Ordering.lt || FloatKind.f64.format.order x y == some Ordering.eq) = decide (z ≤ z') := by
  rw [h.lss h', h.eql h', ← Bool.decide_or]
  exact decide_eq_decide.2 (by omega)
theorem Num.geq {x y : Nat} {z z' : Int} (h : Num x z) (h' : Num y z') : (FloatKind.f64.format.order x y == some Ordering.gt || FloatKind.f64.format.order x y == some Ordering.eq) = decide (z' ≤ z) := by
  rw [show FloatKind.f64.format.order x y = some (compare z z') from h.order h', cmp_gt, cmp_eq, ← Bool.decide_or]
  exact decide_eq_decide.2 (by omega)
/-- zzExact, as it stands -/
def exB (x : Nat) : Bool := (FloatKind.f64.format.order x 0 == some Ordering.eq) || (FloatKind.f64.format.order x 103582791429521408 == some Ordering.gt || FloatKind.f64.format.order x 103582791429521408 == some Ordering.eq) || (FloatKind.f64.format.order x 9326954828284297216 == some Ordering.lt || FloatKind.f64.format.order x 9326954828284297216 == some Ordering.eq)
theorem num_tiny : Num 9326954828284297216 (-103582791429521408) := ⟨true, 103582791429521408, by decide, by decide, by decide⟩
theorem Num.exB {x : Nat} {z : Int} (h : Num x z) : exB x = true ↔ Ex z := by
  unfold Qxb6615722aDoor.exB Ex
  rw [h.eql (num_word 0 (by decide)), h.geq (num_word 103582791429521408 (by decide)), h.leq num_tiny]
  simp only [Bool.or_eq_true, decide_eq_true_eq]
  omega

/-- all that the monotone law asks of one dimension -/
theorem mono_law (k : Nat) (hk : k ≤ 20) {a b p q : Nat} {za zb : Int} (ha : Num a za) (hb : Num b zb) (hp : Num p (pt k za)) (hq : Num q (pt k zb)) (hab : za ≤ zb) :
    (FloatKind.f64.format.order p q == some Ordering.lt || FloatKind.f64.format.order p q == some Ordering.eq) = true ∧
    (FloatKind.f64.format.order p 4607182418800017408 == some Ordering.eq) = (FloatKind.f64.format.order a ((1023 + k) * 4503599627370496) == some Ordering.gt || FloatKind.f64.format.order a ((1023 + k) * 4503599627370496) == some Ordering.eq) ∧
    (FloatKind.f64.format.order q 4607182418800017408 == some Ordering.eq) = (FloatKind.f64.format.order b ((1023 + k) * 4503599627370496) == some Ordering.gt || FloatKind.f64.format.order b ((1023 + k) * 4503599627370496) == some Ordering.eq) ∧
    ((FloatKind.f64.format.order a b == some Ordering.lt) = true → (FloatKind.f64.format.order b ((1023 + k) * 4503599627370496) == some Ordering.lt) = true → exB a = true → exB b = true → (FloatKind.f64.format.order p q == some Ordering.lt) = true) := by
  have ba := ha.bounds
  have bb := hb.bounds
  have hs : Num ((1023 + k) * 4503599627370496) (((1023 + k) * 4503599627370496 : Nat) : Int) := num_word _ (by omega)
  have ho : Num 4607182418800017408 (4607182418800017408 : Int) := num_word 4607182418800017408 (by decide)
  have hm := D_mono (k := k) hab ba.1 bb.2
  have ta := D_top hk ba.2
  have tb := D_top hk bb.2
  rw [hp.leq hq, hp.eql ho, hq.eql ho, ha.geq hs, hb.geq hs, ha.lss hb, hb.lss hs, hp.lss hq]
  refine ⟨decide_eq_true ?_, decide_eq_decide.2 ?_, decide_eq_decide.2 ?_, ?_⟩
  · unfold pt; omega
  · unfold pt; omega
  · unfold pt; omega
  · intro h1 h2 e1 e2
    have h1 := of_decide_eq_true h1
    have h2 := of_decide_eq_true h2
    refine decide_eq_true ?_
    have h3 := D_strict hk h1 ((ha.exB).1 e1) ((hb.exB).1 e2) ba.1 (by omega)
    unfold pt
    omega
end Go.Proofs.Qxb6615722aDoor
