import Derived.Test.Qxb6614863aDoorProg
import Derived.Test.Qxb6614863aDoorPlain
import Derived.WalkKit
import Derived.WalkSpells
import Derived.WalkLawsBesides
import Derived.Laws.IdiomStrings
import Derived.Lib.UnsafeStr
namespace Go.Proofs.Qxb6614863aDoor
open Go.RowKit Go.Lib

theorem ret_int {k : IntKind} {a b : Int} (h : a = b) : Ending.returned (.int k a) = .returned (.int k b) := by rw [h]

theorem addr_add (b o j : Nat) : (⟨b, o, none⟩ : Addr).add j = ⟨b, o + j, none⟩ := by unfold Addr.add; split <;> simp_all

/-- zzHexDigit -/
theorem hexDigit_any (v : Nat) (w : World) (h : v < 16) :
    Calls Tryd.prog 19 #[.int .u8 (v : Int)] w fun e w' => e = .returned (.int .u8 ((Hx.digit v).toNat : Int)) ∧ w' = w := by
  by_cases h10 : v < 10
  · have e := digit_small ⟨v, h10⟩
    simp only at e
    have HE : Hid (Hx.digit v = UInt8.ofNat (48 + v)) := e
    clear e
    have hi : (v : Int) < 10 := by omega
    go_enter Tryd.func19, Tryd.ntmps19
    go_wp2
    go_ret
    refine ⟨ret_int ?_, rfl⟩
    rw [HE.out]
    simp
    omega
  · have e := digit_big ⟨v, h⟩ (by simp; omega)
    simp only at e
    have HE : Hid (Hx.digit v = UInt8.ofNat (87 + v)) := e
    clear e
    have hi : ¬ (v : Int) < 10 := by omega
    go_enter Tryd.func19, Tryd.ntmps19
    go_wp2
    go_ret
    refine ⟨ret_int ?_, rfl⟩
    rw [HE.out]
    simp
    omega

/-- zzUtoa at 0 -/
theorem utoa_zero (w : World) :
    Calls Tryd.prog 16 #[.int .u64 0] w fun e w' => e = .returned (.string ⟨(decDigits 0).toArray⟩) ∧ Below w.heap.size w w' := by
  go_enter Tryd.func16, Tryd.ntmps16
  go_wp2
  go_ret
  exact ⟨by simp [decDigits_one], Below.refl _ _⟩

/-- the digits that are still to be written, ahead of those that are -/
def full (m : Nat) (s : List UInt8) : List UInt8 := if m = 0 then s else decDigits m ++ s
theorem full_step (m : Nat) (s : List UInt8) (h : 0 < m) : full (m / 10) (UInt8.ofNat (48 + m % 10) :: s) = full m s := by
  unfold full
  rw [if_neg (show ¬ m = 0 by omega)]
  by_cases h10 : m < 10
  · rw [if_pos (by omega), decDigits_one h10, Nat.mod_eq_of_lt h10]; rfl
  · rw [if_neg (by omega)]
    conv => rhs; rw [decDigits, dif_neg h10]
    simp
theorem pow_room {m p : Nat} (h0 : 0 < m) (h : m < 10 ^ p) : 0 < p := by
  cases p with
  | zero => simp at h; omega
  | succ p => omega
theorem digit_byte (m : Nat) : ((UInt8.ofNat (48 + m % 10)).toNat : Int) = 48 + (m : Int) % 10 := by
  simp
  omega

theorem utoa_round {u m q B : Nat} {s : List UInt8} {w wr : World} {cur : Array Value} (hm : 0 < m) (hps : Hid (q + 1 + s.length = 20)) (hmp : Hid (m < 10 ^ (q + 1))) (hfull : Hid (full m s = decDigits u))
    (hblk : wr.heap[B]? = some (.cells cur 42 (0, 0))) (hcs : Hid (cur.size = 20)) (hdrop : Hid (cur.toList.drop (q + 1) = byteCells s)) (hnx : Below B w wr) :
    Hid (q + (UInt8.ofNat (48 + m % 10) :: s).length = 20) ∧ Hid (m / 10 < 10 ^ q) ∧ Hid (full (m / 10) (UInt8.ofNat (48 + m % 10) :: s) = decDigits u) ∧
      (wr.setCell ⟨B, q, none⟩ (.int .u8 (48 + (m : Int) % 10))).heap[B]? = some (.cells (cur.setIfInBounds q (.int .u8 (48 + (m : Int) % 10))) 42 (0, 0)) ∧
      Hid ((cur.setIfInBounds q (.int .u8 (48 + (m : Int) % 10))).size = 20) ∧ Hid ((cur.setIfInBounds q (.int .u8 (48 + (m : Int) % 10))).toList.drop q = byteCells (UInt8.ofNat (48 + m % 10) :: s)) ∧
      Below B w (wr.setCell ⟨B, q, none⟩ (.int .u8 (48 + (m : Int) % 10))) := by
  have h1 := hps.out
  have h2 := hmp.out
  have h3 := hcs.out
  have h4 := hdrop.out
  refine ⟨by show _ = _; simp; omega, ?_, (full_step m s hm).trans hfull.out, heap_setCell_same _ _ _ _ _ _ hblk, by show _ = _; simp [h3], ?_, hnx.setCell (Nat.le_refl _) _⟩
  · show m / 10 < 10 ^ q
    rw [Nat.pow_succ] at h2
    omega
  · show _ = _
    have hl : q < cur.toList.length := by simp [h3]; omega
    rw [Array.toList_setIfInBounds, List.drop_eq_getElem_cons (by simpa using hl)]
    rw [List.getElem_set_self]
    rw [List.drop_set_of_lt (by omega), h4]
    simp only [byteCells, List.map_cons, digit_byte]

set_option maxHeartbeats 400000 in
theorem utoa_pos (u : Nat) (w : World) (h0 : 0 < u) (h64 : u < 18446744073709551616) :
    Calls Tryd.prog 16 #[.int .u64 (u : Int)] w fun e w' => e = .returned (.string ⟨(decDigits u).toArray⟩) ∧ Below w.heap.size w w' := by
  have hz : ((u : Int) == 0) = false := by simp; omega
  have HU : Hid (u < 10 ^ 20) := by show u < 10 ^ 20; omega
  go_enter Tryd.func16, Tryd.ntmps16
  go_wp2
  go_loopw [0, 4] (fun n i wr => ∃ (m p : Nat) (s : List UInt8) (cur : Array Value), n = .int .u64 m ∧ i = .int .i64 p ∧ m < 18446744073709551616 ∧ p ≤ 20 ∧ Hid (p + s.length = 20) ∧ Hid (m < 10 ^ p) ∧ Hid (full m s = decDigits u) ∧
      wr.heap[w.heap.size]? = some (.cells cur 42 (0, 0)) ∧ Hid (cur.size = 20) ∧ Hid (cur.toList.drop p = byteCells s) ∧ Below w.heap.size w wr)
    (fun n _ _ => (intOf n).toNat)
  case atStart =>
    refine ⟨u, 20, [], _, rfl, rfl, h64, by omega, rfl, HU, ?_, heap_alloc_new _ _, rfl, rfl, (Below.refl _ _).alloc (Nat.le_refl _) _⟩
    show full u [] = _
    simp [full]; omega
  case round =>
    obtain ⟨m, p, s, cur, rfl, rfl, hm64, hp, hps, hmp, hfull, hblk, hcs, hdrop, hnx⟩ := hrel
    by_cases hm : 0 < m
    · have hp0 := pow_room hm hmp.out
      obtain ⟨q, rfl⟩ : ∃ q, p = q + 1 := ⟨p - 1, by omega⟩
      have hmi : (0 : Int) < m := by omega
      have hcell : ∃ v, wr.cell? ⟨w.heap.size, q, none⟩ = some v := by
        rw [cell_of_row wr _ q cur 42 (0, 0) hblk]
        exact ⟨_, Array.getElem?_eq_getElem (by rw [hcs.out]; omega)⟩
      obtain ⟨v, hcell⟩ := hcell
      have hfr := frozen_of_row wr w.heap.size q cur 42 hblk
      have R := utoa_round (u := u) hm hps hmp hfull hblk hcs hdrop hnx
      clear hblk hcs hdrop hnx hfull hmp hps
      go_wp2
      go_roundw
      case rel => exact ⟨m / 10, q, UInt8.ofNat (48 + m % 10) :: s, _, by go_num, rfl, by omega, by omega, R⟩
      case measure => simp [intOf]; omega
    · obtain rfl : m = 0 := by omega
      have hs : full 0 s = decDigits u := hfull.out
      rw [full, if_pos rfl] at hs
      subst hs
      have hl := hps.out
      have hpos : 1 ≤ (decDigits u).length := by rw [decDigits_length]; exact nDigits_pos u
      have hc3 := hcs.out
      have hd3 := hdrop.out
      have hcells : ∀ j (hj : j < (decDigits u).length), wr.cell? ((⟨w.heap.size, p, none⟩ : Addr).add j) = some (.int .u8 ((decDigits u)[j].toNat : Int)) := by
        intro j hj
        rw [addr_add]
        rw [cell_of_row wr _ _ cur 42 (0, 0) hblk]
        have e : (cur.toList.drop p)[j]? = (byteCells (decDigits u))[j]? := by rw [hd3]
        rw [List.getElem?_drop] at e
        simpa [byteCells, hj] using e
      have hcv := run_convert_bytes_back (P := Tryd.prog) wr 27 9 5 ⟨w.heap.size, p, none⟩ (20 - p) (decDigits u) Tryd.underlying27 Tryd.underlying5 Tryd.underlying9 hcells
      rw [show (decDigits u).length = 20 - p by omega] at hcv
      have hpi : (p : Int) ≤ 20 := by omega
      have hpn : ¬ 20 = p := by omega
      clear hl hc3 hd3 hcells hblk hfull hps hmp hpos hdrop hcs HU
      go_wp2
      go_ret
      exact ⟨rfl, hnx⟩
end Go.Proofs.Qxb6614863aDoor
