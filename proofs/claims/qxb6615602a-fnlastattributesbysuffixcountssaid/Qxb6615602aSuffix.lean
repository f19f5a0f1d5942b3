import Derived.Test.Qxb6615602aIdem
namespace Go.Proofs.Qxb6615602a
open Go.RowKit

theorem shownValue14 (s : ByteArray) (w : World) : Calls Try.prog 14 #[.string s] w fun e w' => e = .returned (.string (cut s)) ∧ w' = w := by
  by_cases h : (256 : Int) < (s.size : Int)
  · have h2 : cut s = s.extract 0 257 := by unfold cut; rw [if_pos (by omega)]
    rw [h2]
    have h3 : (257 : Int) ≤ (s.size : Int) := by omega
    go_enter Try.func14, Try.ntmps14
    go_wp2
    go_ret
    exact ⟨rfl, rfl⟩
  · have h2 : cut s = s := by unfold cut; rw [if_neg (by omega)]
    rw [h2]
    go_enter Try.func14, Try.ntmps14
    go_wp2
    go_ret
    exact ⟨rfl, rfl⟩
theorem shown_step {xss yss : List (List ByteArray)} {k i : Nat} {ss : List ByteArray} (hi : xss[i]? = some ss) (h : yss.drop k = shown (xss.drop i)) (hs : ¬ 16 ≤ sumLen (xss.drop (i + 1))) :
    yss[k]? = some ((ss.take (16 - sumLen (xss.drop (i + 1)))).map cut) ∧ yss.drop (k + 1) = shown (xss.drop (i + 1)) := by
  obtain ⟨hl, rfl⟩ := List.getElem?_eq_some_iff.1 hi
  rw [shown_drop_take hl hs] at h
  constructor
  · have := congrArg (fun l => l[0]?) h
    simpa using this
  · have := congrArg (List.drop 1) h
    simpa using this

set_option maxHeartbeats 3200000 in
set_option maxRecDepth 20000 in
theorem suffix_any (v : Value) (xss : List (List ByteArray)) (w : World) (hV : Vals w v xss) :
    Calls Try.prog 5 #[v] w fun e w' => e = .returned (.bool true) ∧ Below w.heap.size w w' := by
  have HV := Lib.hid hV
  clear hV
  go_enter Try.func5, Try.ntmps5
  go_wp2_with (go_at_call 11; refine (bytes11 v xss w HV.out).mono ?_; rintro e w0 ⟨⟨b1, rfl, -⟩, hw⟩; subst hw; refine Hid.out ?_)
  refine Lib.hid ?_
  cases b1 with
  | false =>
    go_wp2
    go_ret
    exact ⟨rfl, Below.refl _ _⟩
  | true =>
  go_wp2_with (go_at_call 12; refine (fit12 v xss w HV.out).mono ?_; rintro e w0 ⟨⟨b2, rfl, hb2⟩, hw⟩; subst hw; refine Hid.out ?_)
  refine Lib.hid ?_
  cases b2 with
  | false =>
    clear hb2
    go_wp2
    go_ret
    exact ⟨rfl, Below.refl _ _⟩
  | true =>
  obtain ⟨hN, hT⟩ := hb2 rfl
  have c1 := zz_any v xss w HV.out (by omega) (by omega)
  have C1 := Lib.hid c1
  have HT := Lib.hid hT
  have HN := Lib.hid hN
  clear c1 hb2 hT hN
  go_wp2_with (go_at_call 13; refine Calls.mono C1.out ?_; rintro e w2 ⟨v1, rfl, hv1, hb1⟩; refine Hid.out ?_)
  refine Lib.hid ?_
  obtain ⟨a0, c0, hf0, hc0⟩ := HV.out.form
  obtain ⟨a1, k1, hf1, hc1⟩ := hv1.form
  subst hf0 hf1
  have X0 := Lib.hid (fun W (h : Below w2.heap.size w2 W) => hc0 W (hb1.trans (h.mono hb1.size)))
  have X1 := Lib.hid hc1
  have HB := Lib.hid hb1
  clear hc0 hc1 hb1 hv1 HV C1
  generalize hcf : decide (16 < sumLen xss) = cf
  have HCF := Lib.hid hcf
  have hml := shown_length_le xss
  have hys : (shown xss).drop 0 = shown (xss.drop 0) := rfl
  have hN2 := HN.out
  generalize shown xss = yss at *
  have HYS := Lib.hid hys
  generalize hn : xss.length = n at *
  generalize hm : yss.length = m at *
  have HNN := Lib.hid hn
  have HMM := Lib.hid hm
  clear hcf hn hm hys HN
  go_wp2
  go_loop [5, 6] (fun t i => ∃ k N : Nat, i = .int .i64 k ∧ t = .int .i64 N ∧ k ≤ n ∧ N ≤ 65536 ∧ Hid (N = sumLen (xss.take k))) (fun _ i => n - (RowKit.intOf i).toNat)
  case atStart => exact ⟨0, 0, rfl, rfl, by omega, by omega, (show _ = _ by simp [sumLen])⟩
  case round =>
    obtain ⟨k, N, rfl, rfl, hk, hN, HF⟩ := hrel
    by_cases hkn : k < n
    · obtain ⟨ss, hss⟩ : ∃ ss, xss[k]? = some ss := ⟨_, List.getElem?_eq_getElem (by have := HNN.out; omega)⟩
      obtain ⟨b, o, u, ha, hcell, hstr⟩ := X0.out w2 (Below.refl _ _) k ss hss
      obtain ⟨a', cap', rfl, hst⟩ := hstr
      subst ha
      have hN1 : N + ss.length = sumLen (xss.take (k + 1)) := by rw [sumLen_take hss, ← HF.out]
      have hN3 : N + ss.length ≤ 65536 := by have := sumLen_take_le xss (k + 1); have := HT.out; omega
      have HN1 := Lib.hid hN1
      clear hss hst hN1
      generalize ss.length = L at *
      have hki : (k : Int) < (n : Int) := by omega
      have hNi : (N : Int) + (L : Int) ≤ 65536 := by omega
      go_wp2
      go_round
      case rel => exact ⟨k + 1, N + L, by go_num, by go_num, by omega, by omega, HN1⟩
      case measure => simp [RowKit.intOf]; omega
    obtain rfl : n = k := by omega
    have hNt : N = sumLen xss := by have := HF.out; rwa [List.take_of_length_le (by rw [HNN.out]; omega)] at this
    have HNT := Lib.hid hNt
    clear hNt HF hN hkn
    go_wp2
    go_loopw [7, 8, 9] (fun ta tk ti wr => ∃ i k A : Nat, ti = .int .i64 i ∧ tk = .int .i64 k ∧ ta = .int .i64 A ∧ i ≤ n ∧ k ≤ m ∧ k ≤ i ∧ A ≤ 65536 ∧ Hid (A = sumLen (xss.drop i)) ∧ Hid (yss.drop k = shown (xss.drop i)) ∧ Below w2.heap.size w2 wr) (fun _ _ i _ => n - (RowKit.intOf i).toNat)
    case atStart => exact ⟨0, 0, N, rfl, rfl, rfl, by omega, by omega, by omega, by have := HT.out; have := HNT.out; omega, HNT, HYS, Below.refl _ _⟩
    case round =>
      obtain ⟨i, k, A, rfl, rfl, rfl, hi, hk, hki, hA, HA, HY, hnx⟩ := hrel
      obtain ⟨wo, rfl⟩ : ∃ wo, wo = wr := ⟨_, rfl⟩
      by_cases hin : i < n
      · have hil : i < xss.length := by have := HNN.out; omega
        obtain ⟨ss, hss⟩ : ∃ ss, xss[i]? = some ss := ⟨_, List.getElem?_eq_getElem hil⟩
        obtain ⟨b, o, u, ha, hcell, hstr⟩ := X0.out wo hnx i ss hss
        obtain ⟨a', cap', rfl, hst⟩ := hstr
        subst ha
        obtain ⟨A', hA'⟩ : ∃ A', sumLen (xss.drop (i + 1)) = A' := ⟨_, rfl⟩
        have hAL : A = ss.length + A' := by rw [HA.out, sumLen_drop hil, ← hA', (List.getElem?_eq_some_iff.1 hss).2]
        have HST := Lib.hid hst
        have HA' := Lib.hid hA'
        have HS := Lib.hid hss
        clear hst hA' HA hss
        generalize hl : ss.length = L at *
        have HL := Lib.hid hl
        clear hl
        have hii : (i : Int) < (n : Int) := by omega
        have heq : (A : Int) - (L : Int) = (A' : Int) := by omega
        have hAi : (A : Int) ≤ 65536 := by omega
        have hA'i : A' ≤ 65536 := by omega
        have hLi : L ≤ 65536 := by omega
        clear hAL
        by_cases hs16 : 16 ≤ A'
        · have hs16i : decide ((16 : Int) ≤ (A' : Int)) = true := by simp; omega
          have hY2 : yss.drop k = shown (xss.drop (i + 1)) := by rw [HY.out, shown_drop_skip hil (by rw [HA'.out]; exact hs16)]
          have HY2 := Lib.hid hY2
          clear hY2 HY X0 X1 HST hs16 hil
          go_wp2
          go_roundw
          case rel => exact ⟨i + 1, k, A', by go_num, rfl, rfl, by omega, by omega, by omega, by omega, (show _ = _ from HA'.out.symm), HY2, hnx⟩
          case measure => simp [RowKit.intOf]; omega
        · have hs16i : (A' : Int) < (16 : Int) := by omega
          obtain ⟨hyk, hY2⟩ := shown_step HS.out HY.out (by rw [HA'.out]; exact hs16)
          rw [HA'.out] at hyk
          have hkm : k < m := by have := (List.getElem?_eq_some_iff.1 hyk).1; have := HMM.out; omega
          obtain ⟨b2, o2, u2, ha2, hcell2, hstr2⟩ := X1.out wo hnx k _ hyk
          obtain ⟨a2', cap2', rfl, hst2⟩ := hstr2
          subst ha2
          have hlen : ((ss.take (16 - A')).map cut).length = min (16 - A') L := by rw [List.length_map, List.length_take, HL.out]
          have hget : ∀ j s, ss[j]? = some s → j < 16 - A' → ((ss.take (16 - A')).map cut)[j]? = some (cut s) := fun j s h1 h2 => by simp [h1, h2]
          have hcase : ((16 : Int) - (A' : Int) < (L : Int) ∧ (min (16 - A') L = 16 - A')) ∨ (¬ (16 : Int) - (A' : Int) < (L : Int) ∧ min (16 - A') L = L) := by omega
          have hT1 : (((16 - A' : Nat)) : Int) = (16 : Int) - (A' : Int) := by omega
          have hT2 : 16 - A' ≤ 16 := by omega
          have hT3 : min (16 - A') L ≤ 16 - A' ∧ min (16 - A') L ≤ L := by omega
          rw [hlen] at hcell2
          generalize 16 - A' = T at *
          generalize (ss.take T).map cut = ys at *
          have heq2 : (16 : Int) - (A' : Int) = (T : Int) := hT1.symm
          rw [heq2] at hcase
          have HST2 := Lib.hid hst2
          have HGET := Lib.hid hget
          have HY2 := Lib.hid hY2
          have HTL := Lib.hid hT3
          clear hst2 hget hY2 hyk hlen HY X0 X1 hT1 hT3 hil
          have hkmi : (k : Int) < (m : Int) := by omega
          rcases hcase with ⟨hTL, hmin⟩ | ⟨hTL, hmin⟩
          · rw [hmin] at hcell2 HTL
            clear hmin hs16
            go_wp2
            go_loopw [11] (fun i wr => ∃ j : Nat, i = .int .i64 j ∧ j ≤ T ∧ Below wo.heap.size wo wr) (fun i _ => T - (RowKit.intOf i).toNat)
            case atStart => exact ⟨0, rfl, by omega, Below.refl _ _⟩
            case round =>
              obtain ⟨j, rfl, hj, hnx2⟩ := hrel
              have hcell' := (hnx2.cell (p := ⟨b, o + i, none⟩) (block_lt_of_cell hcell)).trans hcell
              have hcell2' := (hnx2.cell (p := ⟨b2, o2 + k, none⟩) (block_lt_of_cell hcell2)).trans hcell2
              clear hcell hcell2
              by_cases hjl : j < T
              · obtain ⟨s, hs⟩ : ∃ s, ss[j]? = some s := ⟨_, List.getElem?_eq_getElem (by have := HL.out; have := HTL.out; omega)⟩
                obtain ⟨bs, os, ha', hcs⟩ := HST.out j s hs
                obtain ⟨bs2, os2, ha2', hcs2⟩ := HST2.out j (cut s) (HGET.out j s hs (by have := HTL.out; omega))
                subst ha' ha2'
                have hcs' := (hnx2.cell (p := ⟨bs, os + j, none⟩) (block_lt_of_cell hcs)).trans hcs
                have hcs2' := (hnx2.cell (p := ⟨bs2, os2 + j, none⟩) (block_lt_of_cell hcs2)).trans hcs2
                clear hs hcs hcs2
                have hji : (j : Int) < (T : Int) := by omega
                have hjL : (j : Int) < (L : Int) := by have := HTL.out; omega
                go_wp2
                go_quiet ((go_at_call 14; exact Calls.quiet_of_same (shownValue14 s _)))
                go_wp2
                go_roundw
                case rel => exact ⟨j + 1, by go_num, by omega, below_drewN hnx2 _⟩
                case measure => simp [RowKit.intOf]; omega
              · obtain rfl : T = j := by omega
                go_wp2
                go_roundw
                case rel => exact ⟨i + 1, k + 1, A', by go_num, by go_num, rfl, by omega, by omega, by omega, by omega, (show _ = _ from HA'.out.symm), HY2, hnx.trans (hnx2.mono hnx.size)⟩
                case measure => simp [RowKit.intOf]; omega
          · rw [hmin] at hcell2 HTL
            clear hmin hs16
            go_wp2
            go_loopw [11] (fun i wr => ∃ j : Nat, i = .int .i64 j ∧ j ≤ L ∧ Below wo.heap.size wo wr) (fun i _ => L - (RowKit.intOf i).toNat)
            case atStart => exact ⟨0, rfl, by omega, Below.refl _ _⟩
            case round =>
              obtain ⟨j, rfl, hj, hnx2⟩ := hrel
              have hcell' := (hnx2.cell (p := ⟨b, o + i, none⟩) (block_lt_of_cell hcell)).trans hcell
              have hcell2' := (hnx2.cell (p := ⟨b2, o2 + k, none⟩) (block_lt_of_cell hcell2)).trans hcell2
              clear hcell hcell2
              by_cases hjl : j < L
              · obtain ⟨s, hs⟩ : ∃ s, ss[j]? = some s := ⟨_, List.getElem?_eq_getElem (by have := HL.out; have := HTL.out; omega)⟩
                obtain ⟨bs, os, ha', hcs⟩ := HST.out j s hs
                obtain ⟨bs2, os2, ha2', hcs2⟩ := HST2.out j (cut s) (HGET.out j s hs (by have := HTL.out; omega))
                subst ha' ha2'
                have hcs' := (hnx2.cell (p := ⟨bs, os + j, none⟩) (block_lt_of_cell hcs)).trans hcs
                have hcs2' := (hnx2.cell (p := ⟨bs2, os2 + j, none⟩) (block_lt_of_cell hcs2)).trans hcs2
                clear hs hcs hcs2
                have hji : (j : Int) < (L : Int) := by omega
                have hjL : (j : Int) < (L : Int) := by have := HTL.out; omega
                go_wp2
                go_quiet ((go_at_call 14; exact Calls.quiet_of_same (shownValue14 s _)))
                go_wp2
                go_roundw
                case rel => exact ⟨j + 1, by go_num, by omega, below_drewN hnx2 _⟩
                case measure => simp [RowKit.intOf]; omega
              · obtain rfl : L = j := by omega
                go_wp2
                go_roundw
                case rel => exact ⟨i + 1, k + 1, A', by go_num, by go_num, rfl, by omega, by omega, by omega, by omega, (show _ = _ from HA'.out.symm), HY2, hnx.trans (hnx2.mono hnx.size)⟩
                case measure => simp [RowKit.intOf]; omega
      · obtain rfl : n = i := by omega
        have hkm : k = m := by
          have h1 := HY.out
          have hd : xss.drop n = [] := List.drop_of_length_le (by rw [HNN.out]; exact Nat.le_refl _)
          rw [hd] at h1
          have h2 := congrArg List.length h1
          simp [shown] at h2
          have := HMM.out
          omega
        subst hkm
        have hcf := HCF.out
        rw [← HNT.out] at hcf
        have hcase : ((16 : Int) < (N : Int) ∧ cf = true) ∨ (¬ (16 : Int) < (N : Int) ∧ cf = false) := by
          by_cases hbig : 16 < N
          · left; exact ⟨by omega, by simpa [hbig] using hcf.symm⟩
          · right; exact ⟨by omega, by simpa [hbig] using hcf.symm⟩
        have hbw := HB.out
        clear hcf HCF HNT X0 X1 HY HA HYS HB
        rcases hcase with ⟨hbig, rfl⟩ | ⟨hbig, rfl⟩ <;> (
          go_wp2
          go_ret
          exact ⟨rfl, hbw.trans (hnx.mono hbw.size)⟩)
end Go.Proofs.Qxb6615602a
