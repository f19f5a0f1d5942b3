import Derived.Test.Qxb6615602aMem
import Derived.Test.Qxb6615602aShelf
import Derived.Sort.OwnSorted
namespace Go.Proofs.Qxb6615602a
open Go.RowKit

def encS (x : Option Addr × Nat × Nat) : Value := .slice x.1 x.2.1 x.2.2

theorem take_putS (cur : Array Value) (ts : List (Option Addr × Nat × Nat)) (h : ts.length ≤ cur.size) : (Sort.putCells encS 0 ts.toArray cur).toList.take ts.length = ts.map encS := by
  apply List.ext_getElem?
  intro i
  rw [List.getElem?_take]
  by_cases hi : i < ts.length
  · rw [if_pos hi]
    have hc : i < cur.size := by omega
    simp [Sort.putCells, hi, hc]
  · rw [if_neg hi, List.getElem?_eq_none (by simp; omega)]

/-- slices.Reverse of a row of slices that the call owns -/
theorem reverse_own (B : Nat) (v : Value) (zs : List (Option Addr × Nat × Nat)) (w : World) (h : w.ownsRow B 41 1 v zs.length (zs.map encS)) :
    Calls Try.prog 20 #[v] w fun e w' => e = .returned (.tuple #[]) ∧ w'.ownsRow B 41 1 v zs.length (zs.reverse.map encS) ∧ w.grownBy w' v.ownBlock := by
  rcases h.2 with ⟨rfl, h0⟩ | ⟨g, cap, cur, rfl, hg, hh, hn, hm, hsz, htk⟩
  · obtain rfl := List.length_eq_zero_iff.1 h0
    refine (AnyE.slices_Reverse_empty Try.revR none 0 w).mono ?_
    rintro e w' ⟨rfl, rfl⟩
    exact ⟨rfl, World.ownsRow_nil _ _ _ _, ⟨rfl, rfl, rfl, Nat.le_refl _, fun _ _ _ => rfl⟩⟩
  · have hH : Sort.Holds encS w g 0 zs.toArray := by
      intro j hj
      have hj' : j < zs.length := by simpa using hj
      have hc := h.cells (g := g) rfl j (encS zs[j]) (by simp [hj'])
      rw [addr_add] at hc
      refine ⟨?_, frozen_of_row w g _ cur 41 hh⟩
      rw [hc, getElem!_pos _ j hj]
      rfl
    refine (AnyE.slices_Reverse Try.revR encS (fun _ => rfl) g 0 cap zs w hH (by unfold maxLen at hm; omega)).mono ?_
    rintro e w' ⟨rfl, n, rfl⟩
    refine ⟨rfl, ⟨by simp, Or.inr ⟨g, cap, Sort.putCells encS 0 zs.reverse.toArray cur, rfl, hg, ?_, hn, hm, by simpa [Sort.putCells] using hsz, ?_⟩⟩, ?_⟩
    · simp [Sort.putRow, Sort.mapBlock, Sort.ahead, Array.getElem?_modify, hh, Sort.onCells]
    · have := take_putS cur zs.reverse (by simp; omega)
      simpa using this
    · refine ⟨rfl, rfl, rfl, by simp [Sort.putRow, Sort.mapBlock, Sort.ahead], fun k hk hne => ?_⟩
      have hkg : g ≠ k := fun e => hne (by rw [← e]; rfl)
      simp [Sort.putRow, Sort.mapBlock, Sort.ahead, Array.getElem?_modify, hkg]
end Go.Proofs.Qxb6615602a
