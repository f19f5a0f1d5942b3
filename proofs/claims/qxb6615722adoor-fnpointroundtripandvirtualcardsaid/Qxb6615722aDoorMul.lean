/-
  A double times a power of two; and the plain law of the round trip. No Go in it.
-/
import Derived.Test.Qxb6615722aDoorLaw
namespace Go.Proofs.Qxb6615722aDoor
open Ieee

theorem rne52 (m : Nat) : rne (m * 2 ^ 52) (2 ^ 52) = m := by
  have h := rne_scale m 1 (2 ^ 52) (by decide)
  rw [Nat.one_mul] at h
  rw [h]
  unfold rne
  rw [Nat.mod_one, Nat.div_one]
  simp
theorem fin_mul {e1 k t r : Nat} (he : 1 ≤ e1) (hr : 4503599627370496 * e1 + t = r) (h : r + k * 4503599627370496 < 9218868437227405312) :
    min ((e1 - 1 + k) * 4503599627370496 + (4503599627370496 + t)) 9218868437227405312 = r + k * 4503599627370496 := by
  obtain ⟨d, rfl⟩ : ∃ d, e1 = d + 1 := ⟨e1 - 1, by omega⟩
  rw [show d + 1 - 1 + k = d + k by omega, Nat.min_eq_left (by omega)]
  omega
theorem nearest_mul (s : Bool) {m : Nat} (p : Int) (hL : m.log2 = 52) (h0 : m ≠ 0) (hp : -1126 ≤ p) :
    double.nearest s (m * 4503599627370496) p = double.word s (min ((p + 52 + 1074).toNat * 4503599627370496 + m) 9218868437227405312) := by
  unfold Format.nearest
  have e0 : m * 4503599627370496 = m * 2 ^ 52 := rfl
  rw [e0]
  have hne : m * 2 ^ 52 ≠ 0 := Nat.mul_ne_zero h0 (Nat.ne_of_gt (Nat.two_pow_pos _))
  rw [if_neg hne]
  have e1 : (m * 2 ^ 52).log2 = 104 := by rw [log2_shift h0, hL]
  rw [binade_eq, infRung_eq, leastPlace_eq, e1]
  have e2 : p + ((104 : Nat) : Int) - (double.fractionBits : Int) = p + 52 := by show p + 104 - 52 = p + 52; omega
  simp only [e2]
  have e4 : max (p + 52) (-1074) = p + 52 := by omega
  rw [e4]
  have e3 : (p - (p + 52)).toNat = 0 := by omega
  have e5 : (p + 52 - p).toNat = 52 := by omega
  rw [e3, Nat.shiftLeft_zero, cut_eq, e1, e5, show min 52 (104 + 2) = 52 from rfl, rne52, show p + 52 - -1074 = p + 52 + 1074 by omega]
theorem mul_word (k : Nat) (hk : k ≤ 20) (s : Bool) {r : Nat} (h1 : 4503599627370496 ≤ r) (h : r + k * 4503599627370496 < 9218868437227405312) :
    double.mul (double.word s r) (double.word false ((1023 + k) * 4503599627370496)) = some (double.word s (r + k * 4503599627370496)) := by
  unfold Format.mul
  rw [word_scale k hk, read_word s (by omega)]
  have e : datum s r = .number s (4503599627370496 + r % 4503599627370496) (-1074 + ((r / 4503599627370496 - 1 : Nat) : Int)) := by
    unfold datum
    rw [if_neg (by omega), if_pos (by omega)]
  have ht : r % 4503599627370496 < 4503599627370496 := Nat.mod_lt _ (by decide)
  have hL := log2_normal ht
  rw [e]
  show some (double.nearest (s ^^ false) _ _) = _
  rw [show (s ^^ false) = s by cases s <;> rfl, nearest_mul s _ hL (by omega) (by omega)]
  refine some_word ?_
  obtain ⟨e1, he⟩ : ∃ e1, r / 4503599627370496 = e1 := ⟨_, rfl⟩
  have hr := Nat.div_add_mod r 4503599627370496
  rw [he] at hr ⊢
  generalize r % 4503599627370496 = t at *
  have he1 : 1 ≤ e1 := by omega
  have e3 : (-1074 + ((e1 - 1 : Nat) : Int) + ((k : Int) - 52) + 52 + 1074).toNat = e1 - 1 + k := by omega
  rw [e3]
  exact fin_mul he1 hr h
theorem mul_zero_word (k : Nat) (hk : k ≤ 20) (s : Bool) : double.mul (double.word s 0) (double.word false ((1023 + k) * 4503599627370496)) = some (double.word s 0) := by
  unfold Format.mul
  rw [word_scale k hk, read_word s (by omega)]
  show some (double.nearest (s ^^ false) (0 * _) _) = _
  rw [show (s ^^ false) = s by cases s <;> rfl, Nat.zero_mul]
  rfl
theorem mul_inf_word (k : Nat) (hk : k ≤ 20) (s : Bool) : double.mul (double.word s 9218868437227405312) (double.word false ((1023 + k) * 4503599627370496)) = some (double.word s 9218868437227405312) := by
  unfold Format.mul
  rw [word_scale k hk, read_word s (by omega), datum_inf]
  show some (double.word (s ^^ false) double.infRung) = _
  rw [infRung_eq, show (s ^^ false) = s by cases s <;> rfl]

/-- the quotient, times the scale, is the amount, where it divides exactly -/
theorem back {k : Nat} (hk : k ≤ 20) {c : Nat} {z : Int} (he : Ex z) (h1 : -9218868437227405312 ≤ z) (h2 : z < 9218868437227405312) (hc : Num c (D k z)) :
    ∃ y, double.mul c ((1023 + k) * 4503599627370496) = some y ∧ Num y z := by
  have hd := D_exact hk he h1 h2
  obtain ⟨s, r, rfl, hr, hz⟩ := hc
  rcases hd with ⟨rfl, hd⟩ | ⟨hz1, hd⟩ | ⟨hz1, hz2, hd⟩ | ⟨rfl, hd⟩
  · have : r = 0 := by cases s <;> simp only [S, Bool.false_eq_true, if_false, if_true] at hz <;> omega
    subst this
    exact ⟨_, mul_zero_word k hk s, s, 0, rfl, by omega, by cases s <;> rfl⟩
  · have hs : s = false ∧ (r : Int) = z - (k : Int) * 4503599627370496 := by
      cases s <;> simp only [S, Bool.false_eq_true, if_false, if_true] at hz
      · exact ⟨rfl, by omega⟩
      · omega
    obtain ⟨rfl, hr2⟩ := hs
    refine ⟨_, mul_word k hk false (by omega) (by omega), false, _, rfl, by omega, ?_⟩
    simp only [S, Bool.false_eq_true, if_false]
    omega
  · have hs : s = true ∧ (r : Int) = -z - (k : Int) * 4503599627370496 := by
      cases s <;> simp only [S, Bool.false_eq_true, if_false, if_true] at hz
      · omega
      · exact ⟨rfl, by omega⟩
    obtain ⟨rfl, hr2⟩ := hs
    refine ⟨_, mul_word k hk true (by omega) (by omega), true, _, rfl, by omega, ?_⟩
    simp only [S, if_true]
    omega
  · have hs : s = true ∧ r = 9218868437227405312 := by
      cases s <;> simp only [S, Bool.false_eq_true, if_false, if_true] at hz
      · omega
      · exact ⟨rfl, by omega⟩
    obtain ⟨rfl, rfl⟩ := hs
    exact ⟨_, mul_inf_word k hk true, true, 9218868437227405312, rfl, by omega, by decide⟩

/-- all that the round-trip law asks of one number -/
theorem round_law (k : Nat) (hk : k ≤ 20) {x c : Nat} {z : Int} (hx : Num x z) (hc : Num c (pt k z)) :
    ((FloatKind.f64.format.order x ((1023 + k) * 4503599627370496) == some Ordering.gt || FloatKind.f64.format.order x ((1023 + k) * 4503599627370496) == some Ordering.eq) = true → (FloatKind.f64.format.order c 4607182418800017408 == some Ordering.eq) = true) ∧
    ((FloatKind.f64.format.order x ((1023 + k) * 4503599627370496) == some Ordering.gt || FloatKind.f64.format.order x ((1023 + k) * 4503599627370496) == some Ordering.eq) = false → (FloatKind.f64.format.order c 4607182418800017408 == some Ordering.lt) = true ∧
      (exB x = true → ∃ y, double.mul c ((1023 + k) * 4503599627370496) = some y ∧ (FloatKind.f64.format.order y x == some Ordering.eq) = true)) := by
  have bx := hx.bounds
  have hs : Num ((1023 + k) * 4503599627370496) (((1023 + k) * 4503599627370496 : Nat) : Int) := num_word _ (by omega)
  have ho : Num 4607182418800017408 (4607182418800017408 : Int) := num_word 4607182418800017408 (by decide)
  have t := D_top hk bx.2
  rw [hx.geq hs, hc.eql ho, hc.lss ho]
  refine ⟨fun h => ?_, fun h => ⟨?_, fun he => ?_⟩⟩
  · have h := of_decide_eq_true h
    refine decide_eq_true ?_
    unfold pt
    omega
  · have h := of_decide_eq_false h
    refine decide_eq_true ?_
    unfold pt
    omega
  · have h := of_decide_eq_false h
    have hp : pt k z = D k z := by unfold pt; omega
    rw [hp] at hc
    obtain ⟨y, hy, hn⟩ := back hk ((hx.exB).1 he) bx.1 (by omega) hc
    exact ⟨y, hy, by rw [hn.eql hx]; simp⟩
end Go.Proofs.Qxb6615722aDoor
