/-
  The plain mathematics of a double divided by a power of two: no Go in it.
-/
import Ieee.Arith
import Derived.Laws.FloatBits
namespace Go.Proofs.Qxb6615722aDoor
open Ieee

/-- n by g, to the nearest, ties to even -/
def rne (n g : Nat) : Nat := n / g + (decide (g < 2 * (n % g)) || (g == 2 * (n % g) && n / g % 2 == 1)).toNat
theorem rne_scale (n g c : Nat) (hc : 0 < c) : rne (n * c) (g * c) = rne n g := by
  unfold rne
  rw [Nat.mul_div_mul_right _ _ hc, Nat.mul_mod_mul_right]
  have h1 : decide (g * c < 2 * (n % g * c)) = decide (g < 2 * (n % g)) := by
    rw [← Nat.mul_assoc]
    exact decide_eq_decide.2 (Nat.mul_lt_mul_right hc)
  have h2 : (g * c == 2 * (n % g * c)) = (g == 2 * (n % g)) := by
    rw [← Nat.mul_assoc, Bool.eq_iff_iff]
    simp only [beq_iff_eq]
    exact ⟨fun h => Nat.eq_of_mul_eq_mul_right hc h, fun h => congrArg (· * c) h⟩
  rw [h1, h2]
theorem rne_le (n g : Nat) : rne n g ≤ n / g + 1 := by
  unfold rne
  have := Bool.toNat_le (decide (g < 2 * (n % g)) || (g == 2 * (n % g) && n / g % 2 == 1))
  omega
theorem le_rne (n g : Nat) : n / g ≤ rne n g := by unfold rne; omega
theorem rne_mono {n n' : Nat} (g : Nat) (h : n ≤ n') : rne n g ≤ rne n' g := by
  have hq := Nat.div_le_div_right (c := g) h
  by_cases he : n / g = n' / g
  · have e1 := Nat.div_add_mod n g
    have e2 := Nat.div_add_mod n' g
    rw [he] at e1
    have hr : n % g ≤ n' % g := by omega
    unfold rne
    rw [he]
    by_cases h1 : g < 2 * (n % g)
    · have h2 : g < 2 * (n' % g) := by omega
      simp [h1, h2]
    · by_cases h2 : g < 2 * (n' % g)
      · have := Bool.toNat_le (decide (g < 2 * (n % g)) || (g == 2 * (n % g) && n' / g % 2 == 1))
        simp only [h2, decide_true, Bool.true_or, Bool.toNat_true]
        omega
      · by_cases h3 : g = 2 * (n % g)
        · have h4 : g = 2 * (n' % g) := by omega
          rw [← h3, ← h4]
          exact Nat.le_refl _
        · have e : (g == 2 * (n % g)) = false := by simpa using h3
          simp [h1, e]
  · have := rne_le n g
    have := le_rne n' g
    omega
theorem rne_small {n g : Nat} (h : 2 * n < g) : rne n g = 0 := by
  unfold rne
  have h1 : n < g := by omega
  rw [Nat.div_eq_of_lt h1, Nat.mod_eq_of_lt h1]
  have e1 : ¬ g < 2 * n := by omega
  have e2 : (g == 2 * n) = false := by simp; omega
  simp [e1, e2]
theorem cut_eq (neg : Bool) (n drop : Nat) : Toward.even.cut neg n drop = rne n (2 ^ min drop (n.log2 + 2)) := by
  unfold Toward.cut rne
  simp only [Nat.shiftLeft_eq, Nat.one_mul]

/-- the size of a rung, in units of the least number -/
def V (r : Nat) : Nat := if r < 4503599627370496 then r else (4503599627370496 + r % 4503599627370496) * 2 ^ (r / 4503599627370496 - 1)
theorem V_succ (r : Nat) : V r < V (r + 1) := by
  unfold V
  by_cases h1 : r + 1 < 4503599627370496
  · rw [if_pos (by omega), if_pos h1]; omega
  · rw [if_neg h1]
    by_cases h2 : r < 4503599627370496
    · have : r = 4503599627370495 := by omega
      subst this
      decide
    · rw [if_neg h2]
      by_cases h3 : (r + 1) % 4503599627370496 = 0
      · have e1 : (r + 1) / 4503599627370496 - 1 = (r / 4503599627370496 - 1) + 1 := by omega
        have e2 : r % 4503599627370496 = 4503599627370495 := by omega
        rw [e1, h3, e2, Nat.pow_succ]
        have := Nat.two_pow_pos (r / 4503599627370496 - 1)
        omega
      · have e1 : (r + 1) / 4503599627370496 = r / 4503599627370496 := by omega
        have e2 : (r + 1) % 4503599627370496 = r % 4503599627370496 + 1 := by omega
        rw [e1, e2]
        exact Nat.mul_lt_mul_of_pos_right (by omega) (Nat.two_pow_pos _)
theorem V_lt {r r' : Nat} (h : r < r') : V r < V r' := by
  induction r' with
  | zero => omega
  | succ n ih =>
    by_cases hn : r = n
    · rw [hn]; exact V_succ n
    · exact Nat.lt_trans (ih (by omega)) (V_succ n)
theorem V_le {r r' : Nat} (h : r ≤ r') : V r ≤ V r' := by
  by_cases he : r = r'
  · rw [he]; exact Nat.le_refl _
  · exact Nat.le_of_lt (V_lt (by omega))
theorem V_zero : V 0 = 0 := rfl

/-- the rung of the quotient by 2^k -/
def Q (k r : Nat) : Nat := if (k + 1) * 4503599627370496 ≤ r then (if r = 9218868437227405312 then r else r - k * 4503599627370496) else rne (V r) (2 ^ k)
theorem V_at (e : Nat) : V ((e + 1) * 4503599627370496) = 4503599627370496 * 2 ^ e := by
  unfold V
  rw [if_neg (by omega), show (e + 1) * 4503599627370496 % 4503599627370496 = 0 by omega, show (e + 1) * 4503599627370496 / 4503599627370496 - 1 = e by omega]
theorem Q_low {k r : Nat} (h : r < (k + 1) * 4503599627370496) : Q k r ≤ 4503599627370496 := by
  unfold Q
  rw [if_neg (by omega)]
  have h1 := V_lt h
  rw [V_at] at h1
  have h2 : V r / 2 ^ k < 4503599627370496 := Nat.div_lt_of_lt_mul (by rw [Nat.mul_comm]; exact h1)
  have := rne_le (V r) (2 ^ k)
  omega
theorem Q_mono {k r r' : Nat} (h : r ≤ r') (hi : r' ≤ 9218868437227405312) : Q k r ≤ Q k r' := by
  by_cases h1 : (k + 1) * 4503599627370496 ≤ r
  · unfold Q
    rw [if_pos h1, if_pos (show (k + 1) * 4503599627370496 ≤ r' by omega)]
    split <;> split <;> omega
  · by_cases h2 : (k + 1) * 4503599627370496 ≤ r'
    · have h3 := Q_low (k := k) (r := r) (by omega)
      have h4 : 4503599627370496 ≤ Q k r' := by
        unfold Q
        rw [if_pos h2]
        split <;> omega
      omega
    · unfold Q
      rw [if_neg h1, if_neg h2]
      exact rne_mono _ (V_le h)
theorem Q_zero (k : Nat) : Q k 0 = 0 := by
  unfold Q
  rw [if_neg (by omega), V_zero]
  exact rne_small (by have := Nat.two_pow_pos k; omega)
end Go.Proofs.Qxb6615722aDoor
