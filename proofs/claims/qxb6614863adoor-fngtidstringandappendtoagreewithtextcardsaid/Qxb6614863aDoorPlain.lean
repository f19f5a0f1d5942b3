/-
  The plain mathematics of the GTID texts: no Go in it.
-/
import Derived.Lib.HexFns
import Derived.Lib.ItoaNum
import Derived.Lib.ItoaLen
namespace Go.Proofs.Qxb6614863aDoor
open Go.Lib

/-- the dash that stands ahead of byte j -/
def dash (j : Nat) : List UInt8 := if j = 4 ∨ j = 6 ∨ j = 8 ∨ j = 10 then [45] else []
/-- what zzUUIDText has gathered behind k rounds -/
def utxt (src : List UInt8) : Nat → List UInt8
  | 0 => []
  | k + 1 => utxt src k ++ dash k ++ [Hx.digit ((src.getD k 0).toNat / 16), Hx.digit ((src.getD k 0).toNat % 16)]
/-- the bytes of the group that runs from byte a for n bytes -/
def grp (src : List UInt8) (a n : Nat) : List UInt8 := Hx.encode ((src.drop a).take n)
/-- the source's text -/
def uuidText (src : List UInt8) : List UInt8 := grp src 0 4 ++ [45] ++ grp src 4 2 ++ [45] ++ grp src 6 2 ++ [45] ++ grp src 8 2 ++ [45] ++ grp src 10 6
def gtidText (src : List UInt8) (n : Nat) : List UInt8 := uuidText src ++ [58] ++ decDigits n

theorem list16 {l : List UInt8} (h : l.length = 16) : ∃ a0 a1 a2 a3 a4 a5 a6 a7 a8 a9 a10 a11 a12 a13 a14 a15, l = [a0, a1, a2, a3, a4, a5, a6, a7, a8, a9, a10, a11, a12, a13, a14, a15] := by
  match l, h with
  | [a0, a1, a2, a3, a4, a5, a6, a7, a8, a9, a10, a11, a12, a13, a14, a15], _ => exact ⟨a0, a1, a2, a3, a4, a5, a6, a7, a8, a9, a10, a11, a12, a13, a14, a15, rfl⟩

theorem utxt_whole {src : List UInt8} (h : src.length = 16) : utxt src 16 = uuidText src := by
  obtain ⟨a0, a1, a2, a3, a4, a5, a6, a7, a8, a9, a10, a11, a12, a13, a14, a15, rfl⟩ := list16 h
  simp [utxt, uuidText, grp, dash, Hx.encode]

theorem uuidText_length {src : List UInt8} (h : src.length = 16) : (uuidText src).length = 36 := by
  obtain ⟨a0, a1, a2, a3, a4, a5, a6, a7, a8, a9, a10, a11, a12, a13, a14, a15, rfl⟩ := list16 h
  simp [uuidText, grp, Hx.encode]

theorem dash_length (j : Nat) : (dash j).length ≤ 1 := by unfold dash; split <;> simp
theorem utxt_length (src : List UInt8) (k : Nat) : (utxt src k).length ≤ 3 * k := by
  induction k with
  | zero => simp [utxt]
  | succ k ih => have := dash_length k; simp [utxt]; omega

theorem digit_fin : ∀ a b : Fin 16, Hx.digit a.val = Hx.digit b.val → a = b := by decide +kernel
theorem digit_inj {a b : Nat} (ha : a < 16) (hb : b < 16) (h : Hx.digit a = Hx.digit b) : a = b := congrArg Fin.val (digit_fin ⟨a, ha⟩ ⟨b, hb⟩ h)
theorem digit_small : ∀ a : Fin 10, Hx.digit a.val = UInt8.ofNat (48 + a.val) := by decide +kernel
theorem digit_big : ∀ a : Fin 16, 10 ≤ a.val → Hx.digit a.val = UInt8.ofNat (87 + a.val) := by decide +kernel

theorem byte_inj {a b : UInt8} (h1 : Hx.digit (a.toNat / 16) = Hx.digit (b.toNat / 16)) (h2 : Hx.digit (a.toNat % 16) = Hx.digit (b.toNat % 16)) : a = b := by
  have ha := a.toNat_lt
  have hb := b.toNat_lt
  have e1 := digit_inj (by omega) (by omega) h1
  have e2 := digit_inj (by omega) (by omega) h2
  exact UInt8.toNat_inj.1 (by omega)

theorem uuidText_inj {a b : List UInt8} (ha : a.length = 16) (hb : b.length = 16) (h : uuidText a = uuidText b) : a = b := by
  obtain ⟨a0, a1, a2, a3, a4, a5, a6, a7, a8, a9, a10, a11, a12, a13, a14, a15, rfl⟩ := list16 ha
  obtain ⟨b0, b1, b2, b3, b4, b5, b6, b7, b8, b9, b10, b11, b12, b13, b14, b15, rfl⟩ := list16 hb
  simp [uuidText, grp, Hx.encode] at h
  obtain ⟨x0, y0, x1, y1, x2, y2, x3, y3, x4, y4, x5, y5, x6, y6, x7, y7, x8, y8, x9, y9, x10, y10, x11, y11, x12, y12, x13, y13, x14, y14, x15, y15⟩ := h
  rw [byte_inj x0 y0, byte_inj x1 y1, byte_inj x2 y2, byte_inj x3 y3, byte_inj x4 y4, byte_inj x5 y5, byte_inj x6 y6, byte_inj x7 y7, byte_inj x8 y8, byte_inj x9 y9, byte_inj x10 y10, byte_inj x11 y11, byte_inj x12 y12, byte_inj x13 y13, byte_inj x14 y14, byte_inj x15 y15]

def decVal (l : List UInt8) : Nat := l.foldl (fun a c => a * 10 + (c.toNat - 48)) 0
theorem decVal_digits (u : Nat) : decVal (decDigits u) = u := by
  induction u using Nat.strongRecOn with
  | _ u ih =>
    by_cases h : u < 10
    · rw [decDigits, dif_pos h]
      simp [decVal]
      omega
    · rw [decDigits, dif_neg h]
      have := ih (u / 10) (by omega)
      unfold decVal at this ⊢
      rw [List.foldl_append, this]
      simp
      omega
theorem decDigits_inj {a b : Nat} (h : decDigits a = decDigits b) : a = b := by rw [← decVal_digits a, ← decVal_digits b, h]

theorem gtidText_inj {a b : List UInt8} {m n : Nat} (ha : a.length = 16) (hb : b.length = 16) : gtidText a m = gtidText b n ↔ a = b ∧ m = n := by
  constructor
  · intro h
    unfold gtidText at h
    rw [List.append_assoc, List.append_assoc] at h
    obtain ⟨h1, h2⟩ := List.append_inj h (by rw [uuidText_length ha, uuidText_length hb])
    exact ⟨uuidText_inj ha hb h1, decDigits_inj (by simpa using h2)⟩
  · rintro ⟨rfl, rfl⟩
    rfl
end Go.Proofs.Qxb6614863aDoor
