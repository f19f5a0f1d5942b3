/-
  The plain mathematics of lastAttributes: no Go in it.
-/
import Derived.RowKit
namespace Go.Proofs.Qxb6615602a

/-- a value as it is shown -/
def cut (s : ByteArray) : ByteArray := if 256 < s.size then s.extract 0 257 else s
def sumLen : List (List ByteArray) → Nat
  | [] => 0
  | x :: xs => x.length + sumLen xs
/-- what is shown of the sets -/
def shown : List (List ByteArray) → List (List ByteArray)
  | [] => []
  | x :: xs => if 16 ≤ sumLen xs then shown xs else (x.take (16 - sumLen xs)).map cut :: shown xs

theorem cut_size (s : ByteArray) : (cut s).size ≤ 257 := by
  unfold cut
  split
  · simp; omega
  · omega
theorem cut_cut (s : ByteArray) : cut (cut s) = cut s := by
  by_cases h : 256 < s.size
  · have e : cut s = s.extract 0 257 := by simp [cut, h]
    have hs : (s.extract 0 257).size = 257 := by simp; omega
    rw [e]
    unfold cut
    rw [if_pos (by omega)]
    apply ByteArray.ext
    simp
  · have e : cut s = s := by simp [cut, h]
    rw [e, e]

theorem sumLen_shown (xs : List (List ByteArray)) : sumLen (shown xs) = min 16 (sumLen xs) := by
  induction xs with
  | nil => simp [shown, sumLen]
  | cons x xs ih =>
    unfold shown
    split
    · rw [ih]; simp only [sumLen]; omega
    · simp only [sumLen, List.length_map, List.length_take, ih]; omega

theorem shown_shown (xs : List (List ByteArray)) : shown (shown xs) = shown xs := by
  induction xs with
  | nil => rfl
  | cons x xs ih =>
    by_cases h : 16 ≤ sumLen xs
    · have e : shown (x :: xs) = shown xs := by simp [shown, h]
      rw [e, ih]
    · have e : shown (x :: xs) = (x.take (16 - sumLen xs)).map cut :: shown xs := by simp [shown, h]
      have hs := sumLen_shown xs
      rw [e]
      conv => lhs; unfold shown
      rw [if_neg (by omega), ih, show sumLen (shown xs) = sumLen xs by omega, ← List.map_take, List.take_take, Nat.min_self, List.map_map]
      congr 1
      exact List.map_congr_left (fun s _ => cut_cut s)

theorem shown_length_le (xs : List (List ByteArray)) : (shown xs).length ≤ xs.length := by
  induction xs with
  | nil => simp [shown]
  | cons x xs ih => unfold shown; split <;> simp <;> omega

theorem sumLen_drop {xs : List (List ByteArray)} {k : Nat} (h : k < xs.length) : sumLen (xs.drop k) = xs[k].length + sumLen (xs.drop (k + 1)) := by
  rw [List.drop_eq_getElem_cons h]; rfl
theorem sumLen_drop_le (xs : List (List ByteArray)) (k : Nat) : sumLen (xs.drop k) ≤ sumLen xs := by
  induction xs generalizing k with
  | nil => simp
  | cons x xs ih =>
    cases k with
    | zero => simp
    | succ k => have := ih k; simp only [List.drop_succ_cons, sumLen]; omega
theorem sumLen_take_drop (xs : List (List ByteArray)) (k : Nat) : sumLen (xs.take k) + sumLen (xs.drop k) = sumLen xs := by
  induction xs generalizing k with
  | nil => simp [sumLen]
  | cons x xs ih =>
    cases k with
    | zero => simp [sumLen]
    | succ k => have := ih k; simp only [List.take_succ_cons, List.drop_succ_cons, sumLen]; omega
theorem shown_drop_skip {xs : List (List ByteArray)} {k : Nat} (h : k < xs.length) (hs : 16 ≤ sumLen (xs.drop (k + 1))) : shown (xs.drop k) = shown (xs.drop (k + 1)) := by
  rw [List.drop_eq_getElem_cons h]; simp [shown, hs]
theorem shown_drop_take {xs : List (List ByteArray)} {k : Nat} (h : k < xs.length) (hs : ¬ 16 ≤ sumLen (xs.drop (k + 1))) : shown (xs.drop k) = (xs[k].take (16 - sumLen (xs.drop (k + 1)))).map cut :: shown (xs.drop (k + 1)) := by
  rw [List.drop_eq_getElem_cons h]; simp [shown, hs]
theorem shown_sizes (xs : List (List ByteArray)) : ∀ ss ∈ shown xs, ∀ s ∈ ss, s.size ≤ 257 := by
  induction xs with
  | nil => intro ss h; cases h
  | cons x xs ih =>
    intro ss h
    unfold shown at h
    split at h
    · exact ih ss h
    · rcases List.mem_cons.1 h with rfl | h
      · intro s hs
        obtain ⟨t, _, rfl⟩ := List.mem_map.1 hs
        exact cut_size t
      · exact ih ss h
end Go.Proofs.Qxb6615602a
