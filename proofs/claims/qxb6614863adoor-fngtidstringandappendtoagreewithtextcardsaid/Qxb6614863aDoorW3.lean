import Derived.Test.Qxb6614863aDoorW2
import Derived.Test.Qxb6614863aDoorShelf
namespace Go.Proofs.Qxb6614863aDoor
open Go.RowKit Go.Lib

/-- slices.Grow at a row that the call owns -/
theorem grow_own (B n k : Nat) (sv : Value) (xs : List Value) (w : World) (hown : w.ownsRow B 5 1 sv n xs) (hBw : B ≤ w.heap.size) (hk : 0 < k) (hlim : n + k ≤ 70368744177664) :
    Calls Tryd.prog 23 #[sv, .int .i64 (k : Int)] w fun e w' => ∃ g cap cur, e = .returned (.slice (some ⟨g, 0, none⟩) n cap) ∧ B ≤ g ∧ w'.heap[g]? = some (.cells cur 5 (0, 0)) ∧ n + k ≤ cap ∧ cap ≤ maxLen ∧ cur.size = cap ∧
      cur.toList.take n = xs ∧ w.grownBy w' none ∧ (sv.ownBlock = some g ∨ w.heap.size ≤ g) := by
  obtain ⟨i0, hi, hz0, hz1, hz2⟩ := info_parts infoByte
  obtain ⟨hl, hv⟩ := hown
  rcases hv with ⟨rfl, rfl⟩ | ⟨g, cap, cur, rfl, hg, hh, hn, hm, hsz, htk⟩
  · have c := Any8.slices_Grow_grow Tryd.growB i0 (.int .u8 0) hi hz0 (by omega) none 0 0 k [] w (by omega) (by omega) (by rw [hz2]; omega) (by omega) (by simp) (fun _ => rfl) (fun a h => by cases h)
    refine Calls.mono c ?_
    rintro e w' ⟨rfl, rfl⟩
    obtain ⟨G, hG⟩ : ∃ G, G = grownCap w (0 + k) 0 5 := ⟨_, rfl⟩
    have hGn : 0 + k ≤ G := by rw [hG]; exact grownCap_ge w _ _ _
    have hGm : G ≤ maxLen := by rw [hG]; exact grownCap_le_maxLen w _ _ _ (by unfold maxLen; omega)
    refine ⟨w.heap.size, G, _, by rw [hG]; rfl, hBw, heap_alloc_new w.drew _, hGn, hGm, ?_, ?_, ?_, Or.inr (Nat.le_refl _)⟩
    · rw [← show G = grownCap w (0 + k) 0 (Tryd.growB_ren.t 25) from hG]
      simp [size_zeroCells, Value.cells]
      omega
    · have : xs = [] := List.length_eq_zero_iff.1 (by simpa using hl)
      simp [this]
    · exact ⟨rfl, rfl, rfl, by simp [World.size_alloc], fun k hk _ => Below.heap_alloc w.drew _ k hk⟩
  · by_cases hroom : n + k ≤ cap
    · have c := Any8.slices_Grow_room Tryd.growB (some ⟨g, 0, none⟩) n cap k w hn (by unfold maxLen at hm; omega) (by omega) hroom
      refine Calls.mono c ?_
      rintro e w' ⟨rfl, rfl⟩
      exact ⟨g, cap, cur, rfl, hg, hh, hroom, hm, by simpa using hsz, by simpa using htk, ⟨rfl, rfl, rfl, Nat.le_refl _, fun _ _ _ => rfl⟩, Or.inl rfl⟩
    · have c := Any8.slices_Grow_grow Tryd.growB i0 (.int .u8 0) hi hz0 (by omega) (some ⟨g, 0, none⟩) n cap k cur.toList w (by omega) (by omega) (by rw [hz2]; omega) (by omega) (by simp [hsz, hz1]) (fun h => by cases h)
        (fun a h j v hj => by cases h; rw [addr_add, cell_of_row w g _ cur 5 (0, 0) hh]; simpa using hj)
      refine Calls.mono c ?_
      rintro e w' ⟨rfl, rfl⟩
      obtain ⟨G, hG⟩ : ∃ G, G = grownCap w (n + k) cap 5 := ⟨_, rfl⟩
      have hGn : n + k ≤ G := by rw [hG]; exact grownCap_ge w _ _ _
      have hGm : G ≤ maxLen := by rw [hG]; exact grownCap_le_maxLen w _ _ _ (by unfold maxLen; omega)
      refine ⟨w.heap.size, G, _, by rw [hG]; rfl, hBw, heap_alloc_new w.drew _, hGn, hGm, ?_, ?_, ?_, Or.inr (Nat.le_refl _)⟩
      · rw [← show G = grownCap w (n + k) cap (Tryd.growB_ren.t 25) from hG]
        simp [size_zeroCells, Value.cells, hsz]
        omega
      · simp [List.take_append, hsz, show n - cap = 0 by omega]
        simpa using htk
      · exact ⟨rfl, rfl, rfl, by simp [World.size_alloc], fun k hk _ => Below.heap_alloc w.drew _ k hk⟩

/-- what the walk of hex.AppendEncode comes to -/
theorem encode_end {B n k g cap : Nat} {sv : Value} {xs : List Value} {ys : List UInt8} {w w1 w2 : World} {cur : Array Value} (hys : ys.length = k) (hg : B ≤ g) (hroom : n + k * 2 ≤ cap) (hm : cap ≤ maxLen) (hcs : cur.size = cap) (hln : xs.length = n) (htk : cur.toList.take n = xs)
    (hgr : w.grownBy w1 none) (hor : sv.ownBlock = some g ∨ w.heap.size ≤ g) (hrow : w2.rowIs g 5 cap (Hx.row (fun i => cur[i]?.getD undef) n ys k)) (hgr2 : w1.grownBy w2 (some g)) :
    w2.ownsRow B 5 1 (.slice (some ⟨g, 0, none⟩) (n + k * 2) cap) (n + k * 2) (xs ++ Lib.byteCells (Hx.encode ys)) ∧ w.grownBy w2 sv.ownBlock := by
  constructor
  · obtain ⟨c, hc, hcz, hci⟩ := hrow
    refine ⟨by simp [Lib.byteCells, Hx.encode_length, hys, hln]; omega, Or.inr ⟨g, cap, c, rfl, hg, hc, hroom, hm, by omega, ?_⟩⟩
    apply List.ext_getElem?
    intro i
    rw [Nat.mul_one, List.getElem?_take]
    by_cases hi : i < n + k * 2
    · rw [if_pos hi]
      have e := hci i (by omega)
      rw [Array.getElem?_toList, e]
      unfold Hx.row
      by_cases hin : n ≤ i
      · rw [if_pos ⟨hin, by omega⟩, List.getElem?_append_right (by omega), hln]
        have hl : i - n < (Hx.encode ys).length := by rw [Hx.encode_length]; omega
        simp [Lib.byteCells, hl]
      · rw [if_neg (by omega), List.getElem?_append_left (by omega), ← htk, List.getElem?_take, if_pos (by omega), Array.getElem?_toList]
        have : i < cur.size := by omega
        simp [this]
    · rw [if_neg hi, List.getElem?_eq_none (by simp [Lib.byteCells, Hx.encode_length]; omega)]
  · refine ⟨hgr2.os.trans hgr.os, hgr2.tape.trans hgr.tape, hgr2.output.trans hgr.output, Nat.le_trans hgr.size hgr2.size, fun j hj hne => ?_⟩
    have h1 := hgr.size
    refine (hgr2.block j (by omega) ?_).trans (hgr.block j hj (by simp))
    intro e
    cases e
    rcases hor with h | h
    · exact hne h.symm
    · omega

theorem bytesOf_ints (ys : List UInt8) : bytesOf (ys.map fun b => (b.toNat : Int)) = ys := by
  simp only [bytesOf, List.map_map]
  exact (List.map_congr_left fun b _ => by simp).trans (List.map_id' ys)

theorem encode_call {n k g cap bs os cs : Nat} {sv : Value} {ys : List UInt8} {w w1 : World} {cur : Array Value} (hys : ys.length = k) (hsrc : ∀ i, i < k → w.cell? ⟨bs, os + i, none⟩ = some (.int .u8 ((ys.getD i 0).toNat : Int))) (hne : sv.ownBlock ≠ some bs) (hbs : bs < w.heap.size)
    (hgr : w.grownBy w1 none) (hor : sv.ownBlock = some g ∨ w.heap.size ≤ g) (hh : w1.heap[g]? = some (.cells cur 5 (0, 0))) (hcs : cur.size = cap) (hroom : n + k * 2 ≤ cap) (hbig : k ≤ 4611686018427387903) :
    Calls Tryd.prog 24 #[.slice (some ⟨g, n, none⟩) (k * 2) (cap - n), .slice (some ⟨bs, os, none⟩) k cs] w1 fun e w' =>
      e = .returned (.int .i64 ((k : Int) * 2)) ∧ w'.rowIs g 5 cap (Hx.row (fun i => cur[i]?.getD undef) n ys k) ∧ w1.grownBy w' (some g) := by
  have c := Tryd.hex_Encode_tag 5 g n (k * 2) (cap - n) cap (fun i => cur[i]?.getD undef) bs os k cs (ys.map fun b => (b.toNat : Int)) w1 (by simp [hys])
    (fun i hi => by
      have : i < ys.length := by omega
      have := ys[i].toNat_lt
      simp [List.getD, *]
      omega)
    (fun i hi => by
      have h1 := hgr.cell (hsrc i hi) (by simp)
      have : i < ys.length := by omega
      simpa [List.getD, this] using h1)
    ⟨cur, hh, hcs, fun i hi => by
      have : i < cur.size := by omega
      simp [this]⟩ (by omega) (by omega)
    (by
      rintro rfl
      rcases hor with h | h
      · exact hne h
      · omega) hbig
  rw [bytesOf_ints] at c
  exact c

set_option maxHeartbeats 400000 in
/-- hex.AppendEncode onto a row that the call owns, from another block -/
theorem appendEncode_own (B n k bs os cs : Nat) (sv : Value) (xs : List Value) (ys : List UInt8) (w : World) (hown : w.ownsRow B 5 1 sv n xs) (hBw : B ≤ w.heap.size) (hk : 0 < k) (hlim : n + k * 2 ≤ 70368744177664)
    (hys : ys.length = k) (hsrc : ∀ i, i < k → w.cell? ⟨bs, os + i, none⟩ = some (.int .u8 ((ys.getD i 0).toNat : Int))) (hne : sv.ownBlock ≠ some bs) (hbs : bs < w.heap.size) :
    Calls Tryd.prog 20 #[sv, .slice (some ⟨bs, os, none⟩) k cs] w fun e w' => ∃ v', e = .returned v' ∧ w'.ownsRow B 5 1 v' (n + k * 2) (xs ++ Lib.byteCells (Hx.encode ys)) ∧ w.grownBy w' sv.ownBlock := by
  have HO := hid hown
  have HY := hid hys
  have HN := hid hne
  have HC := hid hsrc
  clear hown hys hne hsrc
  have hgw := grow_own B n (k * 2) sv xs w HO.out hBw (by omega) hlim
  rw [show ((k * 2 : Nat) : Int) = (k : Int) * 2 by omega] at hgw
  have HG := hid hgw
  clear hgw
  go_enter Tryd.func20, Tryd.ntmps20
  go_wp2_with (go_at_call 22; refine (Tryd.hex_EncodedLen _ (by omega) (by omega) _).mono ?_; rintro e w' ⟨rfl, hw⟩; subst hw; refine Hid.out ?_)
  refine Lib.hid ?_
  go_wp2_with (go_at_call 23; refine Calls.mono HG.out ?_; rintro e w1 ⟨g, cap, cur, rfl, hg, hh, hroom, hm, hcs, htk, hgr, hor⟩; refine Hid.out ?_)
  refine Lib.hid ?_
  have HT := hid htk
  have HR := hid hor
  have HCS := hid hcs
  clear htk hor hcs
  have hE := encode_call (cs := cs) (os := os) HY.out HC.out HN.out hbs hgr HR.out hh HCS.out hroom (by omega)
  have HE := hid hE
  have HH := hid hh
  clear hE hh
  go_wp2_with (go_at_call 24; refine Calls.mono HE.out ?_; rintro e w2 ⟨rfl, hrow, hgr2⟩; refine Hid.out ?_)
  refine Lib.hid ?_
  have R := encode_end (B := B) HY.out hg hroom hm HCS.out (by simpa using HO.out.1) HT.out hgr HR.out hrow hgr2
  have HRR := hid R
  clear R hrow hgr2 hgr HH
  unfold maxLen at hm
  go_wp2
  go_ret
  exact ⟨_, rfl, HRR.out⟩
end Go.Proofs.Qxb6614863aDoor
