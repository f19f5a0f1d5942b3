import Derived.Test.Qxb6615602aZz
namespace Go.Proofs.Qxb6615602a
open Go.RowKit

/-- it answers a bool -/
def IsBool (p : Bool → Prop) (e : Ending) : Prop := ∃ b, e = .returned (.bool b) ∧ p b
theorem isBool_mk {p : Bool → Prop} (b : Bool) (h : p b) : IsBool p (.returned (.bool b)) := ⟨b, rfl, h⟩
theorem sumLen_take {xs : List (List ByteArray)} {k : Nat} {ss : List ByteArray} (h : xs[k]? = some ss) : sumLen (xs.take (k + 1)) = sumLen (xs.take k) + ss.length := by
  have hk : k < xs.length := (List.getElem?_eq_some_iff.1 h).1
  have h1 := sumLen_take_drop xs k
  have h2 := sumLen_take_drop xs (k + 1)
  have h3 := sumLen_drop hk
  rw [(List.getElem?_eq_some_iff.1 h).2] at h3
  omega

set_option maxHeartbeats 1600000 in
theorem bytes15 (v : Value) (xss : List (List ByteArray)) (w : World) (hV : Vals w v xss) :
    Calls Try.prog 15 #[v] w fun e w' => IsBool (fun _ => True) e ∧ w = w' := by
  obtain ⟨a, cap, rfl, hc⟩ := hV
  have HC := Lib.hid hc
  clear hc
  generalize hn : xss.length = n
  have HNN := Lib.hid hn
  clear hn
  by_cases hbig : (1048576 : Int) < (n : Int)
  · go_enter Try.func15, Try.ntmps15
    go_wp2
    go_ret
    exact ⟨isBool_mk false trivial, rfl⟩
  have hni : (n : Int) ≤ 1048576 := by omega
  go_enter Try.func15, Try.ntmps15
  go_wp2
  go_loop [3, 4] (fun z i => ∃ k N : Nat, i = .int .i64 k ∧ z = .int .i64 N ∧ k ≤ n ∧ N ≤ 1048576) (fun _ i => n - (RowKit.intOf i).toNat)
  case atStart => exact ⟨0, n, rfl, by go_num, by omega, by omega⟩
  case round =>
    obtain ⟨k, N, rfl, rfl, hk, hN⟩ := hrel
    by_cases hkn : k < n
    · obtain ⟨ss, hss⟩ : ∃ ss, xss[k]? = some ss := ⟨_, List.getElem?_eq_getElem (by have := HNN.out; omega)⟩
      obtain ⟨b, o, u, ha, hcell, hstr⟩ := HC.out k ss hss
      obtain ⟨a', cap', rfl, hst⟩ := hstr
      subst ha
      have HS := Lib.hid hss
      have HST := Lib.hid hst
      clear hss hst HC
      generalize hl : ss.length = L at *
      have HL := Lib.hid hl
      clear hl
      have hki : (k : Int) < (n : Int) := by omega
      by_cases hL : (1048576 : Int) < (L : Int)
      · go_wp2
        go_ret
        exact ⟨isBool_mk false trivial, rfl⟩
      have hLi : (L : Int) ≤ 1048576 := by omega
      by_cases hNL : (1048576 : Int) < (N : Int) + (L : Int)
      · go_wp2
        go_ret
        exact ⟨isBool_mk false trivial, rfl⟩
      have hNLi : (N : Int) + (L : Int) ≤ 1048576 := by omega
      go_wp2
      go_loop [3, 5] (fun z i => ∃ j N : Nat, i = .int .i64 j ∧ z = .int .i64 N ∧ j ≤ L ∧ N ≤ 1048576) (fun _ i => L - (RowKit.intOf i).toNat)
      case atStart => exact ⟨0, N + L, rfl, by go_num, by omega, by omega⟩
      case round =>
        obtain ⟨j, N2, rfl, rfl, hj, hN2⟩ := hrel
        by_cases hjl : j < L
        · obtain ⟨s, hs⟩ : ∃ s, ss[j]? = some s := ⟨_, List.getElem?_eq_getElem (by have := HL.out; omega)⟩
          obtain ⟨bs, os, ha', hcs⟩ := HST.out j s hs
          subst ha'
          clear hs
          have hji : (j : Int) < (L : Int) := by omega
          by_cases hsz : (1048576 : Int) < (s.size : Int)
          · go_wp2
            go_ret
            exact ⟨isBool_mk false trivial, rfl⟩
          have hszi : (s.size : Int) ≤ 1048576 := by omega
          by_cases hNs : (1048576 : Int) < (N2 : Int) + (s.size : Int)
          · go_wp2
            go_ret
            exact ⟨isBool_mk false trivial, rfl⟩
          have hNsi : (N2 : Int) + (s.size : Int) ≤ 1048576 := by omega
          go_wp2
          go_round
          case rel => exact ⟨j + 1, N2 + s.size, by go_num, by go_num, by omega, by omega⟩
          case measure => simp [RowKit.intOf]; omega
        · obtain rfl : j = L := by omega
          go_wp2
          go_round
          case rel => exact ⟨k + 1, N2, by go_num, rfl, by omega, by omega⟩
          case measure => simp [RowKit.intOf]; omega
    · obtain rfl : k = n := by omega
      go_wp2
      go_ret
      exact ⟨isBool_mk true trivial, rfl⟩

set_option maxHeartbeats 1600000 in
theorem bytes11 (v : Value) (xss : List (List ByteArray)) (w : World) (hV : Vals w v xss) :
    Calls Try.prog 11 #[v] w fun e w' => IsBool (fun _ => True) e ∧ w = w' := by
  obtain ⟨a, cap, rfl, hc⟩ := hV
  have HC := Lib.hid hc
  clear hc
  generalize hn : xss.length = n
  have HNN := Lib.hid hn
  clear hn
  by_cases hbig : (1048576 : Int) < (n : Int)
  · go_enter Try.func11, Try.ntmps11
    go_wp2
    go_ret
    exact ⟨isBool_mk false trivial, rfl⟩
  have hni : (n : Int) ≤ 1048576 := by omega
  go_enter Try.func11, Try.ntmps11
  go_wp2
  go_loop [3, 4] (fun z i => ∃ k N : Nat, i = .int .i64 k ∧ z = .int .i64 N ∧ k ≤ n ∧ N ≤ 1048576) (fun _ i => n - (RowKit.intOf i).toNat)
  case atStart => exact ⟨0, n, rfl, by go_num, by omega, by omega⟩
  case round =>
    obtain ⟨k, N, rfl, rfl, hk, hN⟩ := hrel
    by_cases hkn : k < n
    · obtain ⟨ss, hss⟩ : ∃ ss, xss[k]? = some ss := ⟨_, List.getElem?_eq_getElem (by have := HNN.out; omega)⟩
      obtain ⟨b, o, u, ha, hcell, hstr⟩ := HC.out k ss hss
      obtain ⟨a', cap', rfl, hst⟩ := hstr
      subst ha
      have HS := Lib.hid hss
      have HST := Lib.hid hst
      clear hss hst HC
      generalize hl : ss.length = L at *
      have HL := Lib.hid hl
      clear hl
      have hki : (k : Int) < (n : Int) := by omega
      by_cases hL : (1048576 : Int) < (L : Int)
      · go_wp2
        go_ret
        exact ⟨isBool_mk false trivial, rfl⟩
      have hLi : (L : Int) ≤ 1048576 := by omega
      by_cases hNL : (1048576 : Int) < (N : Int) + (L : Int)
      · go_wp2
        go_ret
        exact ⟨isBool_mk false trivial, rfl⟩
      have hNLi : (N : Int) + (L : Int) ≤ 1048576 := by omega
      go_wp2
      go_loop [3, 5] (fun z i => ∃ j N : Nat, i = .int .i64 j ∧ z = .int .i64 N ∧ j ≤ L ∧ N ≤ 1048576) (fun _ i => L - (RowKit.intOf i).toNat)
      case atStart => exact ⟨0, N + L, rfl, by go_num, by omega, by omega⟩
      case round =>
        obtain ⟨j, N2, rfl, rfl, hj, hN2⟩ := hrel
        by_cases hjl : j < L
        · obtain ⟨s, hs⟩ : ∃ s, ss[j]? = some s := ⟨_, List.getElem?_eq_getElem (by have := HL.out; omega)⟩
          obtain ⟨bs, os, ha', hcs⟩ := HST.out j s hs
          subst ha'
          clear hs
          have hji : (j : Int) < (L : Int) := by omega
          by_cases hsz : (1048576 : Int) < (s.size : Int)
          · go_wp2
            go_ret
            exact ⟨isBool_mk false trivial, rfl⟩
          have hszi : (s.size : Int) ≤ 1048576 := by omega
          by_cases hNs : (1048576 : Int) < (N2 : Int) + (s.size : Int)
          · go_wp2
            go_ret
            exact ⟨isBool_mk false trivial, rfl⟩
          have hNsi : (N2 : Int) + (s.size : Int) ≤ 1048576 := by omega
          go_wp2
          go_round
          case rel => exact ⟨j + 1, N2 + s.size, by go_num, by go_num, by omega, by omega⟩
          case measure => simp [RowKit.intOf]; omega
        · obtain rfl : j = L := by omega
          go_wp2
          go_round
          case rel => exact ⟨k + 1, N2, by go_num, rfl, by omega, by omega⟩
          case measure => simp [RowKit.intOf]; omega
    · obtain rfl : k = n := by omega
      go_wp2
      go_ret
      exact ⟨isBool_mk true trivial, rfl⟩

set_option maxHeartbeats 1600000 in
theorem fit12 (v : Value) (xss : List (List ByteArray)) (w : World) (hV : Vals w v xss) :
    Calls Try.prog 12 #[v] w fun e w' => IsBool (fun b => b = true → xss.length ≤ 131072 ∧ sumLen xss ≤ 65536) e ∧ w = w' := by
  obtain ⟨a, cap, rfl, hc⟩ := hV
  have HC := Lib.hid hc
  clear hc
  generalize hn : xss.length = n
  have HNN := Lib.hid hn
  clear hn
  by_cases hbig : (131072 : Int) < (n : Int)
  · go_enter Try.func12, Try.ntmps12
    go_wp2
    go_ret
    exact ⟨isBool_mk false (fun h => by cases h), rfl⟩
  have hni : (n : Int) ≤ 131072 := by omega
  go_enter Try.func12, Try.ntmps12
  go_wp2
  go_loop [3, 4] (fun z i => ∃ k N : Nat, i = .int .i64 k ∧ z = .int .i64 N ∧ k ≤ n ∧ N ≤ 1048576 ∧ Hid (16 * sumLen (xss.take k) ≤ N)) (fun _ i => n - (RowKit.intOf i).toNat)
  case atStart => exact ⟨0, 8 * n, rfl, by go_num, by omega, by omega, (show _ ≤ _ by simp [sumLen])⟩
  case round =>
    obtain ⟨k, N, rfl, rfl, hk, hN, HF⟩ := hrel
    by_cases hkn : k < n
    · obtain ⟨ss, hss⟩ : ∃ ss, xss[k]? = some ss := ⟨_, List.getElem?_eq_getElem (by have := HNN.out; omega)⟩
      obtain ⟨b, o, u, ha, hcell, hstr⟩ := HC.out k ss hss
      obtain ⟨a', cap', rfl, hst⟩ := hstr
      subst ha
      have HS := Lib.hid hss
      have HST := Lib.hid hst
      clear hss hst HC
      generalize hl : ss.length = L at *
      have HL := Lib.hid hl
      clear hl
      have hki : (k : Int) < (n : Int) := by omega
      by_cases hL : (65536 : Int) < (L : Int)
      · go_wp2
        go_ret
        exact ⟨isBool_mk false (fun h => by cases h), rfl⟩
      have hLi : (L : Int) ≤ 65536 := by omega
      by_cases hNL : (1048576 : Int) < (N : Int) + 16 * (L : Int)
      · go_wp2
        go_ret
        exact ⟨isBool_mk false (fun h => by cases h), rfl⟩
      have hNLi : (N : Int) + 16 * (L : Int) ≤ 1048576 := by omega
      go_wp2
      go_loop [3, 5] (fun z i => ∃ j N : Nat, i = .int .i64 j ∧ z = .int .i64 N ∧ j ≤ L ∧ N ≤ 1048576 ∧ Hid (16 * (sumLen (xss.take k) + L) ≤ N)) (fun _ i => L - (RowKit.intOf i).toNat)
      case atStart => exact ⟨0, N + 16 * L, rfl, by go_num, by omega, by omega, (show _ ≤ _ by have := HF.out; omega)⟩
      case round =>
        obtain ⟨j, N2, rfl, rfl, hj, hN2, HF2⟩ := hrel
        by_cases hjl : j < L
        · obtain ⟨s, hs⟩ : ∃ s, ss[j]? = some s := ⟨_, List.getElem?_eq_getElem (by have := HL.out; omega)⟩
          obtain ⟨bs, os, ha', hcs⟩ := HST.out j s hs
          subst ha'
          clear hs
          have hji : (j : Int) < (L : Int) := by omega
          by_cases hsz : (1048576 : Int) < (s.size : Int)
          · go_wp2
            go_ret
            exact ⟨isBool_mk false (fun h => by cases h), rfl⟩
          have hszi : (s.size : Int) ≤ 1048576 := by omega
          by_cases hNs : (1048576 : Int) < (N2 : Int) + (s.size : Int)
          · go_wp2
            go_ret
            exact ⟨isBool_mk false (fun h => by cases h), rfl⟩
          have hNsi : (N2 : Int) + (s.size : Int) ≤ 1048576 := by omega
          go_wp2
          go_round
          case rel => exact ⟨j + 1, N2 + s.size, by go_num, by go_num, by omega, by omega, (show _ ≤ _ by have := HF2.out; omega)⟩
          case measure => simp [RowKit.intOf]; omega
        · obtain rfl : j = L := by omega
          go_wp2
          go_round
          case rel => exact ⟨k + 1, N2, by go_num, rfl, by omega, by omega, (show _ ≤ _ by rw [sumLen_take HS.out, HL.out]; exact HF2.out)⟩
          case measure => simp [RowKit.intOf]; omega
    · obtain rfl : k = n := by omega
      go_wp2
      go_ret
      exact ⟨isBool_mk true (fun _ => ⟨by omega, by have h1 := HF.out; rw [List.take_of_length_le (by rw [HNN.out]; omega)] at h1; omega⟩), rfl⟩
end Go.Proofs.Qxb6615602a
