import Derived.Test.Qxb6608607aAdl
import Derived.WalkSpells
import Derived.WalkLawsBesides
import Derived.Laws.AppendOwnNone
import Derived.Deep.MidRow
import Derived.Deep.WholeRow
namespace Go.Proofs.Qxb6608607a
open Go.RowKit

/-- bytes' cells -/
def bts (xs : List Int) : List Value := xs.map (Value.int .u8)
theorem bts_length (xs : List Int) : (bts xs).length = xs.length := by simp [bts]
theorem bts_append (xs ys : List Int) : bts (xs ++ ys) = bts xs ++ bts ys := by simp [bts]
theorem bts_at {xs : List Int} {j : Nat} {u : Value} (h : (bts xs)[j]? = some u) : ∃ z, xs[j]? = some z ∧ u = .int .u8 z := by
  simp only [bts, List.getElem?_map, Option.map_eq_some_iff] at h
  obtain ⟨z, hz, rfl⟩ := h
  exact ⟨z, hz, rfl⟩
theorem bts_one (xs : List Int) : ∀ v ∈ bts xs, v.oneCell' = true := by
  intro v hv
  obtain ⟨z, _, rfl⟩ := List.mem_map.1 hv
  rfl
theorem addr_add (b o j : Nat) : (⟨b, o, none⟩ : Addr).add j = ⟨b, o + j, none⟩ := by unfold Addr.add; split <;> simp_all
theorem own_at {w : World} {B n cap g : Nat} {xs : List Int} (h : w.ownsRow B 5 1 (.slice (some ⟨g, 0, none⟩) n cap) n (bts xs)) : At w (some ⟨g, 0, none⟩) xs := fun j z hj => by
  refine ⟨g, 0, rfl, ?_⟩
  have := h.cells (g := g) rfl j (.int .u8 z) (by simp [bts, hj])
  rwa [addr_add] at this
theorem At.below {w w' : World} {a : Option Addr} {xs : List Int} (h : At w a xs) (hb : Below w.heap.size w w') : At w' a xs := fun j z hj => by
  obtain ⟨b, o, ha, hc⟩ := h j z hj
  exact ⟨b, o, ha, (hb.cell (p := ⟨b, o + j, none⟩) (block_lt_of_cell hc)).trans hc⟩
theorem below_drewN {B : Nat} {a w : World} (h : Below B a w) (n : Nat) : Below B a (w.drewN n) := ⟨h.os, h.tape, h.output, h.size, h.block⟩
theorem At.drewN {w : World} {a : Option Addr} {xs : List Int} (h : At w a xs) (n : Nat) : At (w.drewN n) a xs := h
theorem info5 : (Try.prog.info? 5).map (fun i => (i.zero, i.size, i.bytes)) = some (some (.int .u8 0), 1, 1) := by kernel_rfl
theorem eqNil22 (w : World) (a : Option Addr) (l c : Nat) : (binOp .eql 22 (.slice a l c) (.slice none 0 0)).run Try.prog w = .ok (.bool a.isNone) w := Lib.run_eql_slice_nil w 22 5 a l c 0 0 Try.underlying22

theorem checksum24 (a : Option Addr) (cap : Nat) (xs : List Int) (w : World) (h : At w a xs) (hc : xs.length ≤ cap) :
    Calls Try.prog 24 #[.slice a xs.length cap] w fun e w' => e = .returned (.int .u32 (adler xs)) ∧ ∃ n, w' = w.drewN n := by
  have C := Lib.hid (update29 a cap xs w h hc)
  go_enter Try.func24, Try.ntmps24
  go_wp2_with (go_at_call 29; refine Calls.mono C.out ?_; rintro e w' ⟨rfl, n, rfl⟩; refine Hid.out ?_)
  refine Lib.hid ?_
  go_wp2
  go_ret
  exact ⟨rfl, n, rfl⟩

set_option maxHeartbeats 1600000 in
theorem zzEq9 (a b : Option Addr) (ca cb : Nat) (xs : List Int) (w : World) (ha : At w a xs) (hb : At w b xs) (hl : xs.length ≤ 1099511627776) :
    Calls Try.prog 9 #[.slice a xs.length ca, .slice b xs.length cb] w fun e w' => e = .returned (.bool true) ∧ ∃ n, w' = w.drewN n := by
  have HA := Lib.hid ha
  have HB := Lib.hid hb
  clear ha hb
  generalize hn : xs.length = n at *
  have HN := Lib.hid hn
  clear hn
  go_enter Try.func9, Try.ntmps9
  go_wp2
  go_loopw [5] (fun i wr => ∃ j nn : Nat, i = .int .i64 j ∧ j ≤ n ∧ wr = w.drewN nn) (fun i _ => n - (RowKit.intOf i).toNat)
  case atStart => exact ⟨0, 0, rfl, by omega, rfl⟩
  case round =>
    obtain ⟨j, nn, rfl, hj, rfl⟩ := hrel
    by_cases hjl : j < n
    · obtain ⟨x, hx⟩ : ∃ x, xs[j]? = some x := ⟨_, List.getElem?_eq_getElem (by have := HN.out; omega)⟩
      obtain ⟨b1, o1, rfl, k1⟩ := HA.out j x hx
      obtain ⟨b2, o2, rfl, k2⟩ := HB.out j x hx
      clear hx
      have hji : (j : Int) < (n : Int) := by omega
      go_wp2
      go_quiet (fail)
      go_wp2
      go_roundw
      case rel => exact ⟨j + 1, _, by go_num, by omega, rfl⟩
      case measure => simp [RowKit.intOf]; omega
    · obtain rfl : n = j := by omega
      go_wp2
      go_ret
      exact ⟨rfl, _, rfl⟩

/-- slices.Clone of bytes -/
theorem clone23 (a : Option Addr) (cap : Nat) (xs : List Int) (w : World) (h : At w a xs) (hnil : a = none → xs = [] ∧ cap = 0) (hl : xs.length ≤ 1048576) :
    Calls Try.prog 23 #[.slice a xs.length cap] w fun e w' => ∃ v', e = .returned v' ∧ w'.ownsRow w.heap.size 5 1 v' xs.length (bts xs) ∧ Below w.heap.size w w' := by
  obtain ⟨i0, hi, hz0, hz1, hz2⟩ := info_parts info5
  have hq := fun w => eqNil22 w a xs.length cap
  cases a with
  | none =>
    obtain ⟨rfl, rfl⟩ := hnil rfl
    have hq0 : ∀ w, (binOp .eql 22 (.slice none 0 0) (.slice none 0 0)).run Try.prog w = .ok (.bool true) w := fun w => eqNil22 w none 0 0
    clear hl hnil h hi hz0 hz1 hz2 hq
    show Calls Try.prog 23 #[.slice none 0 0] w _
    go_enter Try.func23, Try.ntmps23
    go_wp2
    go_ret
    exact ⟨_, rfl, ⟨by simp [bts], Or.inl ⟨rfl, rfl⟩⟩, Below.refl _ _⟩
  | some ad =>
    have F1 := Lib.hid (show ∀ j u, (bts xs)[j]? = some u → (w.alloc (.cells #[] 5)).cell? (ad.add j) = some u from fun j u hj => by
      obtain ⟨z, hz, rfl⟩ := bts_at hj
      obtain ⟨b, o, hh, hk⟩ := h j z hz
      obtain rfl : ad = ⟨b, o, none⟩ := Option.some.inj hh
      rw [addr_add, World.cell?_alloc_past (hn := block_lt_of_cell hk)]
      exact hk)
    have F2 := Lib.hid (World.ownsRow_made (base := w.heap.size) (e := 5) (size := 1) w #[] 0 (Nat.le_refl _) (by decide) (by simp))
    have F3 := Lib.hid (show (bts xs).length = xs.length * 1 by rw [bts_length, Nat.mul_one])
    clear hnil h
    generalize hn0 : xs.length = n at *
    go_enter Try.func23, Try.ntmps23
    go_wp2_with (at_builtin; refine wpList_append_own _ rfl _ _ 22 rfl w.heap.size 5 i0 (.int .u8 0) 1 1 Try.underlying22 hi hz0 hz1 hz2 rfl (by decide) _ _ _ rfl F2.out ad n cap (bts xs) rfl F3.out F1.out (bts_one xs) (by unfold maxLen; omega) (by omega) (by simp) ?_; intro v1 w1 hown1 hgrow1 hnn1; refine Hid.out ?_)
    refine Lib.hid ?_
    have hb1 : Below w.heap.size w w1 := ((Below.refl _ _).alloc (Nat.le_refl _) _).grown hgrow1 (by simp) (fun k hk => by cases hk; exact Nat.le_refl _)
    rw [Nat.zero_add, List.nil_append] at hown1
    have HX := Lib.hid (And.intro hown1 hb1)
    clear hown1 hb1 hgrow1 hnn1
    go_wp2
    go_ret
    exact ⟨_, rfl, HX.out⟩
end Go.Proofs.Qxb6608607a
