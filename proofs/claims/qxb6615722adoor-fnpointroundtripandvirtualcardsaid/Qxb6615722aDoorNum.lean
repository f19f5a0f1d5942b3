/-
  Doubles as whole numbers (a sign and a rung); order and division by a power of two in those terms. No Go in it.
-/
import Derived.Test.Qxb6615722aDoorPlain
namespace Go.Proofs.Qxb6615722aDoor
open Ieee

/-- a rung with its sign -/
def S (s : Bool) (r : Nat) : Int := if s then -(r : Int) else (r : Int)
/-- x is no NaN and stands on the signed rung z -/
def Num (x : Nat) (z : Int) : Prop := ∃ s r, x = double.word s r ∧ r ≤ 9218868437227405312 ∧ z = S s r
def datum (s : Bool) (r : Nat) : Datum :=
  if r < 4503599627370496 then .number s r (-1074)
  else if r < 9218868437227405312 then .number s (4503599627370496 + r % 4503599627370496) (-1074 + ((r / 4503599627370496 - 1 : Nat) : Int))
  else if r = 9218868437227405312 then .infinity s else .nan s (r - 9218868437227405312)

theorem signWeight_eq : double.signWeight = 9223372036854775808 := by decide
theorem binade_eq : double.binade = 4503599627370496 := by decide
theorem infRung_eq : double.infRung = 9218868437227405312 := by decide
theorem leastPlace_eq : double.leastPlace = -1074 := by decide
theorem read_word (s : Bool) {r : Nat} (h : r < 9223372036854775808) : double.read (double.word s r) = datum s r := by
  unfold Format.read datum
  rw [signWeight_eq, binade_eq, infRung_eq, leastPlace_eq]
  have e1 : (double.word s r / 9223372036854775808 % 2 == 1) = s := by
    unfold Format.word
    rw [signWeight_eq]
    cases s
    · simp only [Bool.false_eq_true, if_false, beq_eq_false_iff_ne]; omega
    · simp only [if_true, beq_iff_eq]; omega
  have e2 : double.word s r % 9223372036854775808 = r := by
    unfold Format.word
    rw [signWeight_eq]
    cases s
    · simp only [Bool.false_eq_true, if_false]; omega
    · simp only [if_true]; omega
  simp only [e1, e2]
theorem datum_fin (s : Bool) {r : Nat} (h : r < 9218868437227405312) : ∃ m a : Nat, datum s r = .number s m (-1074 + (a : Int)) ∧ m * 2 ^ a = V r := by
  unfold datum V
  by_cases h1 : r < 4503599627370496
  · rw [if_pos h1, if_pos h1]
    exact ⟨r, 0, by simp, by simp⟩
  · rw [if_neg h1, if_pos h, if_neg h1]
    exact ⟨_, _, rfl, rfl⟩
theorem datum_inf (s : Bool) : datum s 9218868437227405312 = .infinity s := by simp [datum]

theorem cmp_congr {a b c d : Int} (h1 : a < b ↔ c < d) (h2 : a = b ↔ c = d) : compare a b = compare c d := by
  show compareOfLessAndEq a b = compareOfLessAndEq c d
  unfold compareOfLessAndEq
  simp only [h1, h2]
theorem S_mono {φ : Nat → Nat} (hm : ∀ x y, x < y → φ x < φ y) (h0 : φ 0 = 0) (s t : Bool) (x y : Nat) : compare (S s (φ x)) (S t (φ y)) = compare (S s x) (S t y) := by
  have hx : x = 0 ∧ φ x = 0 ∨ 0 < x ∧ 0 < φ x := by
    rcases Nat.eq_zero_or_pos x with h | h
    · left; exact ⟨h, by rw [h, h0]⟩
    · right; have := hm 0 x h; exact ⟨h, by omega⟩
  have hy : y = 0 ∧ φ y = 0 ∨ 0 < y ∧ 0 < φ y := by
    rcases Nat.eq_zero_or_pos y with h | h
    · left; exact ⟨h, by rw [h, h0]⟩
    · right; have := hm 0 y h; exact ⟨h, by omega⟩
  have hxy : x < y ∧ φ x < φ y ∨ x = y ∧ φ x = φ y ∨ y < x ∧ φ y < φ x := by
    rcases Nat.lt_trichotomy x y with h | h | h
    · exact .inl ⟨h, hm _ _ h⟩
    · exact .inr (.inl ⟨h, by rw [h]⟩)
    · exact .inr (.inr ⟨h, hm _ _ h⟩)
  generalize φ x = p at *
  generalize φ y = q at *
  apply cmp_congr <;> cases s <;> cases t <;> simp only [S, Bool.false_eq_true, if_false, if_true] <;> omega
theorem signed_eq (s : Bool) (m u : Nat) : signed s m u = S s (m * 2 ^ u) := by
  unfold signed S
  rw [Nat.shiftLeft_eq]

theorem order_word (s t : Bool) {r r' : Nat} (h : r ≤ 9218868437227405312) (h' : r' ≤ 9218868437227405312) : double.order (double.word s r) (double.word t r') = some (compare (S s r) (S t r')) := by
  unfold Format.order
  rw [read_word s (by omega), read_word t (by omega)]
  by_cases hr : r = 9218868437227405312
  · subst hr
    rw [datum_inf]
    by_cases hr' : r' = 9218868437227405312
    · subst hr'
      rw [datum_inf]
      cases s <;> cases t <;> decide
    · obtain ⟨n, b, e, -⟩ := datum_fin t (r := r') (by omega)
      rw [e]
      show some _ = some _
      congr 1
      have h1 : r' < 9218868437227405312 := by omega
      cases s
      · show Ordering.gt = compareOfLessAndEq _ _
        unfold compareOfLessAndEq
        rw [if_neg (by cases t <;> simp only [S, Bool.false_eq_true, if_false, if_true] <;> omega), if_neg (by cases t <;> simp only [S, Bool.false_eq_true, if_false, if_true] <;> omega)]
      · show Ordering.lt = compareOfLessAndEq _ _
        unfold compareOfLessAndEq
        rw [if_pos (by cases t <;> simp only [S, Bool.false_eq_true, if_false, if_true] <;> omega)]
  · obtain ⟨m, a, e, hV⟩ := datum_fin s (r := r) (by omega)
    rw [e]
    by_cases hr' : r' = 9218868437227405312
    · subst hr'
      rw [datum_inf]
      show some _ = some _
      congr 1
      have h1 : r < 9218868437227405312 := by omega
      cases t
      · show Ordering.lt = compareOfLessAndEq _ _
        unfold compareOfLessAndEq
        rw [if_pos (by cases s <;> simp only [S, Bool.false_eq_true, if_false, if_true] <;> omega)]
      · show Ordering.gt = compareOfLessAndEq _ _
        unfold compareOfLessAndEq
        rw [if_neg (by cases s <;> simp only [S, Bool.false_eq_true, if_false, if_true] <;> omega), if_neg (by cases s <;> simp only [S, Bool.false_eq_true, if_false, if_true] <;> omega)]
    · obtain ⟨n, b, e', hV'⟩ := datum_fin t (r := r') (by omega)
      rw [e']
      unfold Datum.order
      simp only [signed_eq]
      congr 1
      have e1 : (-1074 + (a : Int) - min (-1074 + (a : Int)) (-1074 + (b : Int))).toNat = a - min a b := by omega
      have e2 : (-1074 + (b : Int) - min (-1074 + (a : Int)) (-1074 + (b : Int))).toNat = b - min a b := by omega
      rw [e1, e2, ← S_mono (φ := fun x => x * 2 ^ min a b) (fun x y h => Nat.mul_lt_mul_of_pos_right h (Nat.two_pow_pos _)) (by simp)]
      simp only [Nat.mul_assoc, ← Nat.pow_add]
      rw [show a - min a b + min a b = a by omega, show b - min a b + min a b = b by omega, hV, hV']
      exact S_mono (fun x y h => V_lt h) V_zero s t r r'
theorem Num.order {x y : Nat} {z z' : Int} (h : Num x z) (h' : Num y z') : double.order x y = some (compare z z') := by
  obtain ⟨s, r, rfl, hr, rfl⟩ := h
  obtain ⟨t, r', rfl, hr', rfl⟩ := h'
  exact order_word s t hr hr'

theorem log2_shift {m c : Nat} (h : m ≠ 0) : (m * 2 ^ c).log2 = m.log2 + c := by
  have h1 := (Nat.log2_eq_iff h).1 rfl
  refine (Nat.log2_eq_iff (Nat.mul_ne_zero h (Nat.ne_of_gt (Nat.two_pow_pos _)))).2 ⟨?_, ?_⟩
  · rw [Nat.pow_add]; exact Nat.mul_le_mul_right _ h1.1
  · rw [show m.log2 + c + 1 = m.log2 + 1 + c by omega, Nat.pow_add]; exact Nat.mul_lt_mul_of_pos_right h1.2 (Nat.two_pow_pos _)
theorem quot_num (s : Bool) {m : Nat} (i j : Int) (hL : m.log2 ≤ 52) :
    Datum.quotient 54 (.number s m i) (.number false 4503599627370496 j) = some (.number s (m * 2 ^ (55 - m.log2)) (i - j - (107 - (m.log2 : Int)))) := by
  unfold Datum.quotient
  have e0 : (4503599627370496 : Nat).log2 = 52 := by decide
  simp only [e0]
  have e1 : 54 + 52 - m.log2 = (54 - m.log2) + 52 := by omega
  rw [e1, Nat.shiftLeft_eq, Nat.pow_add, ← Nat.mul_assoc]
  have e2 : m * 2 ^ (54 - m.log2) * 2 ^ 52 / 4503599627370496 = m * 2 ^ (54 - m.log2) := Nat.mul_div_cancel _ (by decide)
  have e3 : m * 2 ^ (54 - m.log2) * 2 ^ 52 % 4503599627370496 = 0 := Nat.mul_mod_left _ 4503599627370496
  rw [e2, e3, if_neg (by decide)]
  have e4 : 2 * (m * 2 ^ (54 - m.log2)) + (0 != 0 : Bool).toNat = m * 2 ^ (55 - m.log2) := by
    rw [show 55 - m.log2 = (54 - m.log2) + 1 by omega, Nat.pow_succ]
    have : (0 != 0 : Bool).toNat = 0 := rfl
    rw [this, Nat.add_zero, Nat.mul_comm 2, Nat.mul_assoc]
  rw [e4]
  congr 2
  · cases s <;> rfl
  · omega
theorem nearest_num (s : Bool) {m : Nat} (p : Int) (h0 : m ≠ 0) (hL : m.log2 ≤ 52) :
    double.nearest s (m * 2 ^ (55 - m.log2)) p = double.word s (min ((max (p + 3) (-1074) + 1074).toNat * 4503599627370496 + rne (m * 2 ^ (55 - m.log2)) (2 ^ min (max (p + 3) (-1074) - p).toNat 57)) 9218868437227405312) := by
  unfold Format.nearest
  have hne : m * 2 ^ (55 - m.log2) ≠ 0 := Nat.mul_ne_zero h0 (Nat.ne_of_gt (Nat.two_pow_pos _))
  rw [if_neg hne]
  have e1 : (m * 2 ^ (55 - m.log2)).log2 = 55 := by rw [log2_shift h0]; omega
  rw [binade_eq, infRung_eq, leastPlace_eq, e1]
  have e2 : p + ((55 : Nat) : Int) - (double.fractionBits : Int) = p + 3 := by show p + 55 - 52 = p + 3; omega
  simp only [e2]
  have e3 : (p - max (p + 3) (-1074)).toNat = 0 := by omega
  rw [e3, Nat.shiftLeft_zero, cut_eq, e1, show max (p + 3) (-1074) - -1074 = max (p + 3) (-1074) + 1074 by omega]
theorem log2_normal {t : Nat} (h : t < 4503599627370496) : (4503599627370496 + t).log2 = 52 := (Nat.log2_eq_iff (by omega)).2 ⟨by show 4503599627370496 ≤ _; omega, by show _ < 9007199254740992; omega⟩
theorem some_word {s : Bool} {a b : Nat} (h : a = b) : some (double.word s a) = some (double.word s b) := by rw [h]
theorem rne8 (m : Nat) : rne (m * 2 ^ 3) (2 ^ 3) = m := by
  have h := rne_scale m 1 (2 ^ 3) (by decide)
  rw [Nat.one_mul] at h
  rw [h]
  unfold rne
  rw [Nat.mod_one, Nat.div_one]
  simp
theorem fin_eq {e1 k t r : Nat} (hc : k + 1 ≤ e1) (hr : 4503599627370496 * e1 + t = r) (h : r < 9218868437227405312) :
    min ((e1 - 1 - k) * 4503599627370496 + (4503599627370496 + t)) 9218868437227405312 = r - k * 4503599627370496 := by
  obtain ⟨d, rfl⟩ : ∃ d, e1 = k + 1 + d := ⟨e1 - k - 1, by omega⟩
  rw [show k + 1 + d - 1 - k = d by omega, Nat.min_eq_left (by omega)]
  omega
theorem div_num (k : Nat) (hk : k ≤ 20) (s : Bool) {r : Nat} (h0 : r ≠ 0) (h : r < 9218868437227405312) :
    ((datum s r).quotient 54 (.number false 4503599627370496 ((k : Int) - 52))).map double.write = some (double.word s (Q k r)) := by
  by_cases h1 : r < 4503599627370496
  · have e : datum s r = .number s r (-1074) := by simp [datum, h1]
    have hL : r.log2 < 52 := (Nat.log2_lt h0).2 (by show r < 4503599627370496; exact h1)
    rw [e, quot_num s _ _ (by omega)]
    show some (double.nearest _ _ _) = _
    rw [nearest_num s _ h0 (by omega)]
    refine some_word ?_
    have e1 : max (-1074 - ((k : Int) - 52) - (107 - (r.log2 : Int)) + 3) (-1074) = -1074 := by omega
    rw [e1]
    have e2 : (-1074 - (-1074 - ((k : Int) - 52) - (107 - (r.log2 : Int)))).toNat = k + 55 - r.log2 := by omega
    rw [e2]
    have e3 : ((-1074 : Int) + 1074).toNat * 4503599627370496 = 0 := by decide
    rw [e3, Nat.zero_add]
    have hQ : Q k r = rne r (2 ^ k) := by
      unfold Q V
      rw [if_neg (by omega), if_pos h1]
    have hb := Q_low (k := k) (r := r) (by omega)
    rw [hQ] at hb
    have key : rne (r * 2 ^ (55 - r.log2)) (2 ^ min (k + 55 - r.log2) 57) = rne r (2 ^ k) := by
      by_cases hc : k + 55 - r.log2 ≤ 57
      · rw [Nat.min_eq_left hc, show k + 55 - r.log2 = k + (55 - r.log2) by omega, Nat.pow_add, rne_scale _ _ _ (Nat.two_pow_pos _)]
      · rw [Nat.min_eq_right (by omega)]
        have hlt : r < 2 ^ (r.log2 + 1) := ((Nat.log2_eq_iff h0).1 rfl).2
        rw [rne_small, rne_small]
        · have : 2 ^ (r.log2 + 2) ≤ 2 ^ k := Nat.pow_le_pow_right (by decide) (by omega)
          rw [Nat.pow_succ] at this
          omega
        · have h3 : r * 2 ^ (55 - r.log2) < 2 ^ (r.log2 + 1) * 2 ^ (55 - r.log2) := Nat.mul_lt_mul_of_pos_right hlt (Nat.two_pow_pos _)
          rw [← Nat.pow_add, show r.log2 + 1 + (55 - r.log2) = 56 by omega] at h3
          omega
    rw [key, hQ]
    omega
  · have e : datum s r = .number s (4503599627370496 + r % 4503599627370496) (-1074 + ((r / 4503599627370496 - 1 : Nat) : Int)) := by simp [datum, h1, h]
    have ht : r % 4503599627370496 < 4503599627370496 := Nat.mod_lt _ (by decide)
    have hL := log2_normal ht
    rw [e, quot_num s _ _ (by omega)]
    show some (double.nearest _ _ _) = _
    rw [nearest_num s _ (by omega) (by omega)]
    refine some_word ?_
    rw [hL]
    obtain ⟨e1, he⟩ : ∃ e1, r / 4503599627370496 = e1 := ⟨_, rfl⟩
    have hr := Nat.div_add_mod r 4503599627370496
    rw [he] at hr ⊢
    generalize r % 4503599627370496 = t at *
    have hp : (-1074 + ((e1 - 1 : Nat) : Int) - ((k : Int) - 52) - (107 - ((52 : Nat) : Int))) = -1074 + ((e1 - 1 : Nat) : Int) - k - 3 := by omega
    rw [hp]
    by_cases hc : k + 1 ≤ e1
    · have e2 : max (-1074 + ((e1 - 1 : Nat) : Int) - k - 3 + 3) (-1074) = -1074 + ((e1 - 1 : Nat) : Int) - k := by omega
      rw [e2]
      have e3 : (-1074 + ((e1 - 1 : Nat) : Int) - k - (-1074 + ((e1 - 1 : Nat) : Int) - k - 3)).toNat = 3 := by omega
      have e4 : (-1074 + ((e1 - 1 : Nat) : Int) - k + 1074).toNat = e1 - 1 - k := by omega
      rw [e3, e4]
      have hQ : Q k r = r - k * 4503599627370496 := by
        unfold Q
        rw [if_pos (show (k + 1) * 4503599627370496 ≤ r by omega), if_neg (show ¬ r = 9218868437227405312 by omega)]
      rw [show 55 - 52 = 3 from rfl, show min 3 57 = 3 from rfl, rne8, hQ]
      exact fin_eq hc hr h
    · have e2 : max (-1074 + ((e1 - 1 : Nat) : Int) - k - 3 + 3) (-1074) = -1074 := by omega
      rw [e2]
      have e3 : (-1074 - (-1074 + ((e1 - 1 : Nat) : Int) - k - 3)).toNat = k + 1 - e1 + 3 := by omega
      have e4 : ((-1074 : Int) + 1074).toNat * 4503599627370496 = 0 := by decide
      rw [e3, e4, Nat.zero_add, show min (k + 1 - e1 + 3) 57 = k + 1 - e1 + 3 by omega]
      have hQ : Q k r = rne ((4503599627370496 + t) * 2 ^ (e1 - 1)) (2 ^ k) := by
        unfold Q V
        rw [if_neg (show ¬ (k + 1) * 4503599627370496 ≤ r by omega), if_neg (show ¬ r < 4503599627370496 by omega)]
        rw [show r % 4503599627370496 = t by omega, show r / 4503599627370496 = e1 by omega]
      have hb := Q_low (k := k) (r := r) (by omega)
      have key : rne ((4503599627370496 + t) * 2 ^ (55 - 52)) (2 ^ (k + 1 - e1 + 3)) = Q k r := by
        rw [hQ, Nat.pow_add 2 (k + 1 - e1) 3]
        rw [rne_scale _ _ (2 ^ 3) (by decide)]
        conv => rhs; rw [show k = (k + 1 - e1) + (e1 - 1) by omega, Nat.pow_add]
        rw [rne_scale _ _ _ (Nat.two_pow_pos _)]
      rw [key]
      exact Nat.min_eq_left (Nat.le_trans hb (by decide))
theorem word_scale (k : Nat) (hk : k ≤ 20) : double.read (double.word false ((1023 + k) * 4503599627370496)) = .number false 4503599627370496 ((k : Int) - 52) := by
  rw [read_word false (by omega)]
  unfold datum
  rw [if_neg (by omega), if_pos (by omega), show (1023 + k) * 4503599627370496 % 4503599627370496 = 0 by omega, show (1023 + k) * 4503599627370496 / 4503599627370496 = 1023 + k by omega]
  congr 1
  omega
theorem div_word (k : Nat) (hk : k ≤ 20) (s : Bool) {r : Nat} (h : r ≤ 9218868437227405312) :
    double.div (double.word s r) (double.word false ((1023 + k) * 4503599627370496)) = some (double.word s (Q k r)) := by
  unfold Format.div
  rw [word_scale k hk, read_word s (by omega)]
  by_cases hr : r = 9218868437227405312
  · subst hr
    rw [datum_inf]
    unfold Q
    rw [if_pos (by omega), if_pos rfl]
    show some (double.word (s ^^ false) double.infRung) = _
    rw [infRung_eq]
    cases s <;> rfl
  · by_cases h0 : r = 0
    · subst h0
      rw [Q_zero]
      show some (double.nearest (s ^^ false) _ _) = _
      rw [show (s ^^ false) = s by cases s <;> rfl]
      rfl
    · exact div_num k hk s h0 (by omega)
end Go.Proofs.Qxb6615722aDoor
