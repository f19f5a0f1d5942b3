import Derived.Test.Qxb6608607aBy
import Derived.Deep.RegionHeld3
import Derived.Handy
namespace Go.Proofs.Qxb6608607a
open Go.RowKit

/-- four bytes, the least first -/
def le (z : Int) : List Int := [z % 256, z / 256 % 256, z / 65536 % 256, z / 16777216 % 256]
/-- four bytes written at o -/
def put4 (ys : List Int) (o : Nat) (z : Int) : List Int := (((ys.set o (z % 256)).set (o + 1) (z / 256 % 256)).set (o + 2) (z / 65536 % 256)).set (o + 3) (z / 16777216 % 256)
theorem bts_set (ys : List Int) (j : Nat) (z : Int) : (bts ys).set j (.int .u8 z) = bts (ys.set j z) := by simp [bts, List.map_set]

set_option maxHeartbeats 1600000 in
theorem put25 (g o n cap B : Nat) (ys : List Int) (z : Int) (w : World) (hown : w.ownsRow B 5 1 (.slice (some ⟨g, 0, none⟩) n cap) n (bts ys)) (ho : o + 4 ≤ n) (hB : B ≤ w.heap.size) :
    Calls Try.prog 25 #[.agg #[], .slice (some ⟨g, o, none⟩) (n - o) (cap - o), .int .u32 z] w fun e w' => e = .returned (.tuple #[]) ∧ w'.ownsRow B 5 1 (.slice (some ⟨g, 0, none⟩) n cap) n (bts (put4 ys o z)) ∧ Below B w w' := by
  have hlen : ys.length = n := by have := hown.1; rw [bts_length] at this; omega
  have hcell : ∀ j, j < n → ∃ y, w.cell? ⟨g, j, none⟩ = some (.int .u8 y) := fun j hj => by
    rw [hown.cellAt j (by omega)]
    exact ⟨ys[j], by simp [bts, hlen, hj]⟩
  obtain ⟨y0, k0⟩ := hcell o (by omega)
  obtain ⟨y1, k1⟩ := hcell (o + 1) (by omega)
  obtain ⟨y2, k2⟩ := hcell (o + 2) (by omega)
  obtain ⟨y3, k3⟩ := hcell (o + 3) (by omega)
  have f0 := hown.frozenAt o
  have f1 := hown.frozenAt (o + 1)
  have f2 := hown.frozenAt (o + 2)
  have f3 := hown.frozenAt (o + 3)
  have hgw : g < w.heap.size := block_lt_of_cell k0
  have hBg : B ≤ g := (hown.lt g rfl).1
  have h4 : (4 : Int) ≤ ((n - o : Nat) : Int) := by omega
  have HX := Lib.hid (show ∀ b : Obj, ((((((w.setCell ⟨g, o, none⟩ (.int .u8 (z % 256))).setCell ⟨g, o + 1, none⟩ (.int .u8 (z / 256 % 256))).setCell ⟨g, o + 2, none⟩ (.int .u8 (z / 65536 % 256))).setCell ⟨g, o + 3, none⟩ (.int .u8 (z / 16777216 % 256))).alloc b).ownsRow B 5 1 (.slice (some ⟨g, 0, none⟩) n cap) n (bts (put4 ys o z))) ∧ Below B w ((((((w.setCell ⟨g, o, none⟩ (.int .u8 (z % 256))).setCell ⟨g, o + 1, none⟩ (.int .u8 (z / 256 % 256))).setCell ⟨g, o + 2, none⟩ (.int .u8 (z / 65536 % 256))).setCell ⟨g, o + 3, none⟩ (.int .u8 (z / 16777216 % 256))).alloc b)) from fun b => by
    refine ⟨?_, ((((((Below.refl B w).setCell hBg _).setCell hBg _).setCell hBg _).setCell hBg _).alloc (by simpa [World.setCell] using hB) b)⟩
    have h1 := ((((hown.stored o (.int .u8 (z % 256))).1.stored (o + 1) (.int .u8 (z / 256 % 256))).1.stored (o + 2) (.int .u8 (z / 65536 % 256))).1.stored (o + 3) (.int .u8 (z / 16777216 % 256))).1
    rw [bts_set, bts_set, bts_set, bts_set] at h1
    exact h1.alloc b)
  generalize n - o = m at *
  generalize cap - o = c at *
  clear hown hcell hlen
  go_enter Try.func25, Try.ntmps25
  go_wp2
  go_returns
  exact ⟨rfl, HX.out _⟩

theorem le_cells (w : World) (o : Obj) (z : Int) : ∀ j u, (bts (le z))[j]? = some u → ((w.alloc o).alloc (.cells #[.int .u8 (z % 256), .int .u8 (z / 256 % 256), .int .u8 (z / 65536 % 256), .int .u8 (z / 16777216 % 256)] 5)).cell? ((⟨w.heap.size + 1, 0, none⟩ : Addr).add j) = some u := by
  intro j u hj
  rw [addr_add, Nat.zero_add, World.cell?_alloc_at _ _ _ _ (by simp)]
  match j, hj with
  | 0, hj => simpa [bts, le] using hj
  | 1, hj => simpa [bts, le] using hj
  | 2, hj => simpa [bts, le] using hj
  | 3, hj => simpa [bts, le] using hj

set_option maxHeartbeats 1600000 in
theorem app22 (v : Value) (n B : Nat) (xs : List Int) (z : Int) (w : World) (hown : w.ownsRow B 5 1 v n (bts xs)) (hB : B ≤ w.heap.size) (hn : n ≤ 1048576) :
    Calls Try.prog 22 #[.agg #[], v, .int .u32 z] w fun e w' => ∃ v', e = .returned v' ∧ w'.ownsRow B 5 1 v' (n + 4) (bts (xs ++ le z)) ∧ v' ≠ .slice none 0 0 ∧ Below B w w' := by
  obtain ⟨i0, hi, hz0, hz1, hz2⟩ := info_parts info5
  have hbk : ∀ k, v.ownBlock = some k → B ≤ k := fun k hk => (hown.lt k hk).1
  have F2 := Lib.hid (((hown.alloc (.cells #[] 49)).alloc (.cells #[.int .u8 (z % 256), .int .u8 (z / 256 % 256), .int .u8 (z / 65536 % 256), .int .u8 (z / 16777216 % 256)] 5)))
  have F1 := Lib.hid (le_cells w (.cells #[] 49) z)
  have F3 := Lib.hid (show (bts (le z)).length = 4 * 1 by rfl)
  have HB := Lib.hid hbk
  clear hown hbk
  go_enter Try.func22, Try.ntmps22
  go_wp2_with (at_builtin; refine wpList_append_own _ rfl _ _ 22 rfl B 5 i0 (.int .u8 0) 1 1 Try.underlying22 hi hz0 hz1 hz2 rfl (by decide) v n (bts xs) rfl F2.out ⟨w.heap.size + 1, 0, none⟩ 4 4 (bts (le z)) rfl F3.out F1.out (bts_one _) (by unfold maxLen; omega) (by omega) (by simp; omega) ?_; intro v1 w1 hown1 hgrow1 hnn1; refine Hid.out ?_)
  refine Lib.hid ?_
  have hb1 : Below B w w1 := (((Below.refl B w).alloc hB _).alloc (by simp; omega) _).grown hgrow1 (by simp; omega) HB.out
  rw [← bts_append] at hown1
  have hne1 : v1 ≠ .slice none 0 0 := fun e => by have := (hnn1.1 e).2; omega
  have HX := Lib.hid (And.intro hown1 (And.intro hne1 hb1))
  clear hne1 hown1 hb1 hgrow1 hnn1
  go_wp2
  go_ret
  exact ⟨_, rfl, HX.out⟩
end Go.Proofs.Qxb6608607a
