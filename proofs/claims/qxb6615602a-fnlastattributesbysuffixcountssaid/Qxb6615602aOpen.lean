import Derived.Test.Qxb6615602aZz
import Derived.Deep.Strs
import Derived.OpenShut
namespace Go.Proofs.Qxb6615602a
open Go.ChangeShapes Go.WideShapes Go.RowKit
section
variable {H : Type} {enc : TypeId × Value → H} {w : World} {base : Nat} {spare : Nat → Bool} {held : Bool}

theorem at_plain {a : Addr} {V : Nat → Value} {m : Nat} (h : ∀ i, i < m → w.cell? (a.add i) = some (V i)) (hp : 0 < m) :
    ∃ b off, a = ⟨b, off, none⟩ ∧ ∀ j, j < m → w.cell? ⟨b, off + j, none⟩ = some (V j) := by
  obtain ⟨b, off, spot⟩ := a
  have hspot : spot = none := by simpa [Addr.add] using World.cell?_spot (h 0 hp)
  subst hspot
  exact ⟨b, off, rfl, fun j hj => by rw [← addr_add]; exact h j hj⟩
theorem open_row {fuel : Nat} {u : Value} {x : DataW H × List MemPlace} (h : DataW.trod enc Try.prog w base spare held fuel 32 [u] = some x) : ∃ ss, StrRow w u ss := by
  rcases Deep.open_strs Try.underlying32 Try.underlying9 (by kernel_rfl) h with ⟨hcs, _⟩ | ⟨a, len, cap, m, Sx, hcs, _, hl, _, hm, _, hx⟩
  · simp at hcs; subst hcs
    exact ⟨[], none, 0, rfl, by simp⟩
  · simp at hcs; subst hcs
    have hlm : len ≤ m := by rw [hm]; split <;> omega
    refine ⟨(List.range len).map Sx, some a, cap, by simp, fun j s hj => ?_⟩
    have hjl : j < len := by have := (List.getElem?_eq_some_iff.1 hj).1; simpa using this
    have hjs : Sx j = s := by simpa [hjl] using hj
    obtain ⟨b, o, rfl, hc⟩ := at_plain (V := fun i => .string (Sx i)) (fun i hi => (hx i hi).1) (by omega)
    exact ⟨b, o, rfl, by rw [hc j (by omega), hjs]⟩
theorem open_vals {fuel : Nat} {u : Value} {x : DataW H × List MemPlace} (h : DataW.trod enc Try.prog w base spare held fuel 28 [u] = some x) : ∃ xss, Vals w u xss := by
  rcases Deep.open_slice1 Try.underlying28 (by kernel_rfl) h with ⟨hcs, _⟩ | ⟨a, len, cap, m, n, V, D, Pl, hcs, _, hl, _, hm, _, hx⟩
  · simp at hcs; subst hcs
    exact ⟨[], none, 0, rfl, by simp⟩
  · simp at hcs; subst hcs
    have hlm : len ≤ m := by rw [hm]; split <;> omega
    obtain ⟨R, hR⟩ := Deep.choose_lt (α := List ByteArray) (p := fun i ss => StrRow w (V i) ss) (fun i hi => open_row (hx i hi).2)
    refine ⟨(List.range len).map R, some a, cap, by simp, fun j ss hj => ?_⟩
    have hjl : j < len := by have := (List.getElem?_eq_some_iff.1 hj).1; simpa using this
    have hjs : R j = ss := by simpa [hjl] using hj
    obtain ⟨b, o, rfl, hc⟩ := at_plain (fun i hi => (hx i hi).1) (by omega)
    exact ⟨b, o, V j, rfl, hc j (by omega), hjs ▸ hR j (by omega)⟩
end
end Go.Proofs.Qxb6615602a
