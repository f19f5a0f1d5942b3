import Derived.Test.Qxb6615602aFit
import Derived.Deep.QuietTactic
import Derived.BigQuiet
namespace Go.Proofs.Qxb6615602a
open Go.RowKit

theorem Vals.form {w : World} {v : Value} {xss : List (List ByteArray)} (h : Vals w v xss) : ∃ a cap, v = .slice a xss.length cap ∧ ∀ W, Below w.heap.size w W → ∀ (j : Nat) ss, xss[j]? = some ss → ∃ b o u, a = some ⟨b, o, none⟩ ∧ W.cell? ⟨b, o + j, none⟩ = some u ∧ StrRow W u ss := by
  obtain ⟨a, cap, hv, hc⟩ := h
  refine ⟨a, cap, hv, fun W hb j ss hj => ?_⟩
  obtain ⟨b, o, u, ha, hcell, hs⟩ := hc j ss hj
  exact ⟨b, o, u, ha, (hb.cell (p := ⟨b, o + j, none⟩) (block_lt_of_cell hcell)).trans hcell, hs.below hb⟩

theorem sumLen_take_le (xss : List (List ByteArray)) (k : Nat) : sumLen (xss.take k) ≤ sumLen xss := by
  induction xss generalizing k with
  | nil => simp [sumLen]
  | cons x xs ih =>
    cases k with
    | zero => simp [sumLen]
    | succ k => have := ih k; simp only [List.take_succ_cons, sumLen]; omega

theorem below_drewN {B : Nat} {a w : World} (h : Below B a w) (n : Nat) : Below B a (w.drewN n) := ⟨h.os, h.tape, h.output, h.size, h.block⟩
theorem sumLen_mem {xss : List (List ByteArray)} {k : Nat} {ss : List ByteArray} (h : xss[k]? = some ss) : ss.length ≤ sumLen xss := by
  have h1 := sumLen_take h
  have h2 := sumLen_take_le xss (k + 1)
  omega

set_option maxHeartbeats 3200000 in
theorem idem_any (v : Value) (xss : List (List ByteArray)) (w : World) (hV : Vals w v xss) :
    Calls Try.prog 6 #[v] w fun e w' => e = .returned (.bool true) ∧ Below w.heap.size w w' := by
  have HV := Lib.hid hV
  clear hV
  go_enter Try.func6, Try.ntmps6
  go_wp2_with (go_at_call 15; refine (bytes15 v xss w HV.out).mono ?_; rintro e w0 ⟨⟨b1, rfl, -⟩, hw⟩; subst hw; refine Hid.out ?_)
  refine Lib.hid ?_
  cases b1 with
  | false =>
    go_wp2
    go_ret
    exact ⟨rfl, Below.refl _ _⟩
  | true =>
  go_wp2_with (go_at_call 12; refine (fit12 v xss w HV.out).mono ?_; rintro e w0 ⟨⟨b2, rfl, hb2⟩, hw⟩; subst hw; refine Hid.out ?_)
  refine Lib.hid ?_
  cases b2 with
  | false =>
    clear hb2
    go_wp2
    go_ret
    exact ⟨rfl, Below.refl _ _⟩
  | true =>
  obtain ⟨hN, hT⟩ := hb2 rfl
  have c1 := zz_any v xss w HV.out (by omega) (by omega)
  have C1 := Lib.hid c1
  have HT := Lib.hid hT
  have HN := Lib.hid hN
  clear c1 hb2 hT hN
  go_wp2_with (go_at_call 13; refine Calls.mono C1.out ?_; rintro e w1 ⟨v1, rfl, hv1, hb1⟩; refine Hid.out ?_)
  refine Lib.hid ?_
  have c2 := zz_any v1 (shown xss) w1 hv1 (by have := shown_length_le xss; have := HN.out; omega) (by rw [sumLen_shown]; have := HT.out; omega)
  rw [shown_shown, sumLen_shown, show decide (16 < min 16 (sumLen xss)) = false from decide_eq_false (by omega)] at c2
  have C2 := Lib.hid c2
  have H1 := Lib.hid (And.intro hv1 hb1)
  clear c2 hv1 hb1 C1
  go_wp2_with (go_at_call 13; refine Calls.mono C2.out ?_; rintro e w2 ⟨v2, rfl, hv2, hb2⟩; refine Hid.out ?_)
  refine Lib.hid ?_
  obtain ⟨a0, c0, hf0, hc0⟩ := HV.out.form
  obtain ⟨a1, k1, hf1, hc1⟩ := H1.out.1.form
  obtain ⟨a2, k2, hf2, hc2⟩ := hv2.form
  have hbw : Below w.heap.size w w2 := H1.out.2.trans (hb2.mono H1.out.2.size)
  subst hf0 hf1 hf2
  have X0 := Lib.hid (fun W (h : Below w2.heap.size w2 W) => hc0 W (hbw.trans (h.mono hbw.size)))
  have X1 := Lib.hid (fun W (h : Below w2.heap.size w2 W) => hc1 W (hb2.trans (h.mono hb2.size)))
  have X2 := Lib.hid hc2
  have HB := Lib.hid hbw
  clear hc0 hc1 hc2 hv2 hb2 hbw HV H1 C2
  have hsl := sumLen_shown xss
  have hsz := shown_sizes xss
  have hml := shown_length_le xss
  have hN2 := HN.out
  generalize hcf : decide (16 < sumLen xss) = cf
  have HCF := Lib.hid hcf
  clear hcf
  generalize shown xss = yss at *
  generalize hn : xss.length = n at *
  generalize hm : yss.length = m at *
  have HNN := Lib.hid hn
  have HMM := Lib.hid hm
  have HSL := Lib.hid hsl
  have HSZ := Lib.hid hsz
  clear hn hm hsl hsz HN
  go_wp2
  go_loop [7, 8] (fun t i => ∃ k N : Nat, i = .int .i64 k ∧ t = .int .i64 N ∧ k ≤ n ∧ N ≤ 65536 ∧ Hid (N = sumLen (xss.take k))) (fun _ i => n - (RowKit.intOf i).toNat)
  case atStart => exact ⟨0, 0, rfl, rfl, by omega, by omega, (show _ = _ by simp [sumLen])⟩
  case round =>
    obtain ⟨k, N, rfl, rfl, hk, hN, HF⟩ := hrel
    by_cases hkn : k < n
    · obtain ⟨ss, hss⟩ : ∃ ss, xss[k]? = some ss := ⟨_, List.getElem?_eq_getElem (by have := HNN.out; omega)⟩
      obtain ⟨b, o, u, ha, hcell, hstr⟩ := X0.out w2 (Below.refl _ _) k ss hss
      obtain ⟨a', cap', rfl, hst⟩ := hstr
      subst ha
      have hN1 : N + ss.length = sumLen (xss.take (k + 1)) := by rw [sumLen_take hss, ← HF.out]
      have hN3 : N + ss.length ≤ 65536 := by have := sumLen_take_le xss (k + 1); have := HT.out; omega
      have HN1 := Lib.hid hN1
      clear hss hst hN1
      generalize ss.length = L at *
      have hki : (k : Int) < (n : Int) := by omega
      have hNi : (N : Int) + (L : Int) ≤ 65536 := by omega
      go_wp2
      go_round
      case rel => exact ⟨k + 1, N + L, by go_num, by go_num, by omega, by omega, HN1⟩
      case measure => simp [RowKit.intOf]; omega
    obtain rfl : n = k := by omega
    have hNt : N = sumLen xss := by have := HF.out; rwa [List.take_of_length_le (by rw [HNN.out]; omega)] at this
    have HNT := Lib.hid hNt
    clear hNt HF X0 hN HNN hkn
    go_wp2
    go_loop [9, 10] (fun t i => ∃ k S : Nat, i = .int .i64 k ∧ t = .int .i64 S ∧ k ≤ m ∧ S ≤ 16 ∧ Hid (S = sumLen (yss.take k))) (fun _ i => m - (RowKit.intOf i).toNat)
    case atStart => exact ⟨0, 0, rfl, rfl, by omega, by omega, (show _ = _ by simp [sumLen])⟩
    case round =>
      obtain ⟨k, S, rfl, rfl, hk, hS, HF⟩ := hrel
      by_cases hkn : k < m
      · obtain ⟨ss, hss⟩ : ∃ ss, yss[k]? = some ss := ⟨_, List.getElem?_eq_getElem (by have := HMM.out; omega)⟩
        obtain ⟨b, o, u, ha, hcell, hstr⟩ := X1.out w2 (Below.refl _ _) k ss hss
        obtain ⟨a', cap', rfl, hst⟩ := hstr
        subst ha
        have hN1 : S + ss.length = sumLen (yss.take (k + 1)) := by rw [sumLen_take hss, ← HF.out]
        have hN3 : S + ss.length ≤ 16 := by have := sumLen_take_le yss (k + 1); have := HSL.out; omega
        have HN1 := Lib.hid hN1
        have hsz : ∀ s ∈ ss, s.size ≤ 257 := HSZ.out ss (List.mem_of_getElem? hss)
        have HSS := Lib.hid hsz
        have HST := Lib.hid hst
        clear hss hst hN1 hsz
        generalize hl : ss.length = L at *
        have HL := Lib.hid hl
        clear hl
        have hki : (k : Int) < (m : Int) := by omega
        have hNi : (S : Int) + (L : Int) ≤ 16 := by omega
        go_wp2
        go_loop [11] (fun i => ∃ j : Nat, i = .int .i64 j ∧ j ≤ L) (fun i => L - (RowKit.intOf i).toNat)
        case atStart => exact ⟨0, rfl, by omega⟩
        case round =>
          obtain ⟨j, rfl, hj⟩ := hrel
          by_cases hjl : j < L
          · obtain ⟨s, hs⟩ : ∃ s, ss[j]? = some s := ⟨_, List.getElem?_eq_getElem (by have := HL.out; omega)⟩
            obtain ⟨bs, os, ha', hcs⟩ := HST.out j s hs
            subst ha'
            have hszi : (s.size : Int) ≤ 257 := by have := HSS.out s (List.mem_of_getElem? hs); omega
            clear hs
            have hji : (j : Int) < (L : Int) := by omega
            go_wp2
            go_round
            case rel => exact ⟨j + 1, by go_num, by omega⟩
            case measure => simp [RowKit.intOf]; omega
          · obtain rfl : j = L := by omega
            go_wp2
            go_round
            case rel => exact ⟨k + 1, S + j, by go_num, by go_num, by omega, by omega, HN1⟩
            case measure => simp [RowKit.intOf]; omega
      obtain rfl : m = k := by omega
      have hSt : S = min 16 N := by have := HF.out; rw [List.take_of_length_le (by rw [HMM.out]; omega)] at this; rw [this, HSL.out, HNT.out]
      have hcf := HCF.out
      rw [← HNT.out] at hcf
      have hcase : ((16 : Int) < (N : Int) ∧ cf = true ∧ S = 16) ∨ (¬ (16 : Int) < (N : Int) ∧ cf = false ∧ S = N) := by
        by_cases hbig : 16 < N
        · left; exact ⟨by omega, by simpa [hbig] using hcf.symm, by omega⟩
        · right; exact ⟨by omega, by simpa [hbig] using hcf.symm, by omega⟩
      have hbw := HB.out
      have hsm : sumLen yss ≤ 16 := by have := HSL.out; omega
      have HSM := Lib.hid hsm
      clear hsm hcf hSt HCF HF hS HNT HSL HB hkn
      rcases hcase with ⟨hbig, rfl, rfl⟩ | ⟨hbig, rfl, rfl⟩ <;> (
        go_wp2
        go_loopw [13] (fun i wr => ∃ k : Nat, i = .int .i64 k ∧ k ≤ m ∧ Below w2.heap.size w2 wr) (fun i _ => m - (RowKit.intOf i).toNat)
        case atStart => exact ⟨0, rfl, by omega, Below.refl _ _⟩
        case round =>
          obtain ⟨q, rfl, hq, hnx⟩ := hrel
          obtain ⟨wo, rfl⟩ : ∃ wo, wo = wr := ⟨_, rfl⟩
          by_cases hqm : q < m
          · obtain ⟨ss, hss⟩ : ∃ ss, yss[q]? = some ss := ⟨_, List.getElem?_eq_getElem (by have := HMM.out; omega)⟩
            obtain ⟨b, o, u, ha, hcell, hstr⟩ := X1.out wo hnx q ss hss
            obtain ⟨a', cap', rfl, hst⟩ := hstr
            obtain ⟨b2, o2, u2, ha2, hcell2, hstr2⟩ := X2.out wo hnx q ss hss
            obtain ⟨a2', cap2', rfl, hst2⟩ := hstr2
            subst ha ha2
            have HST := Lib.hid hst
            have HST2 := Lib.hid hst2
            have hL16 : ss.length ≤ 16 := Nat.le_trans (sumLen_mem hss) HSM.out
            clear hss hst hst2 X1 X2
            generalize hl : ss.length = L at *
            have HL := Lib.hid hl
            clear hl
            have hqi : (q : Int) < (m : Int) := by omega
            go_wp2
            go_quiet (fail)
            go_wp2
            go_loopw [14] (fun i wr => ∃ j : Nat, i = .int .i64 j ∧ j ≤ L ∧ Below wo.heap.size wo wr) (fun i _ => L - (RowKit.intOf i).toNat)
            case atStart => exact ⟨0, rfl, by omega, below_drewN (Below.refl _ _) _⟩
            case round =>
              obtain ⟨j, rfl, hj, hnx2⟩ := hrel
              have hcell' := (hnx2.cell (p := ⟨b, o + q, none⟩) (block_lt_of_cell hcell)).trans hcell
              have hcell2' := (hnx2.cell (p := ⟨b2, o2 + q, none⟩) (block_lt_of_cell hcell2)).trans hcell2
              clear hcell hcell2
              by_cases hjl : j < L
              · obtain ⟨s, hs⟩ : ∃ s, ss[j]? = some s := ⟨_, List.getElem?_eq_getElem (by have := HL.out; omega)⟩
                obtain ⟨bs, os, ha', hcs⟩ := HST.out j s hs
                obtain ⟨bs2, os2, ha2', hcs2⟩ := HST2.out j s hs
                subst ha' ha2'
                have hcs' := (hnx2.cell (p := ⟨bs, os + j, none⟩) (block_lt_of_cell hcs)).trans hcs
                have hcs2' := (hnx2.cell (p := ⟨bs2, os2 + j, none⟩) (block_lt_of_cell hcs2)).trans hcs2
                clear hs hcs hcs2
                have hji : (j : Int) < (L : Int) := by omega
                go_wp2
                go_quiet (fail)
                go_wp2
                go_roundw
                case rel => exact ⟨j + 1, by go_num, by omega, below_drewN hnx2 _⟩
                case measure => simp [RowKit.intOf]; omega
              · obtain rfl : L = j := by omega
                go_wp2
                go_roundw
                case rel => exact ⟨q + 1, by go_num, by omega, hnx.trans (hnx2.mono hnx.size)⟩
                case measure => simp [RowKit.intOf]; omega
          · obtain rfl : m = q := by omega
            go_wp2
            go_ret
            exact ⟨rfl, hbw.trans (hnx.mono hbw.size)⟩)
end Go.Proofs.Qxb6615602a
