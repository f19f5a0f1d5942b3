import Derived.Test.Qxb6608607aProg
import Derived.WalkKit
import Derived.ProofKit
import Derived.Below
import Derived.Lib.Hide
import Derived.Deep.QuietTactic
import Derived.BigQuiet
namespace Go.Proofs.Qxb6608607a
open Go.RowKit

/-- the cells behind a slice's address -/
def At (w : World) (a : Option Addr) (xs : List Int) : Prop := ∀ (j : Nat) z, xs[j]? = some z → ∃ b o, a = some ⟨b, o, none⟩ ∧ w.cell? ⟨b, o + j, none⟩ = some (.int .u8 z)
def lenOf : Value → Nat
  | .slice _ n _ => n
  | _ => 0
theorem At.cell {w : World} {b o : Nat} {xs : List Int} (h : At w (some ⟨b, o, none⟩) xs) {j : Nat} {z : Int} (hj : xs[j]? = some z) : w.cell? ⟨b, o + j, none⟩ = some (.int .u8 z) := by
  obtain ⟨_, _, hh, hk⟩ := h j z hj
  injection hh with hh
  injection hh with h1 h2
  subst h1 h2
  exact hk
theorem At.drop {w : World} {b o : Nat} {xs : List Int} (h : At w (some ⟨b, o, none⟩) xs) (n : Nat) : At w (some ⟨b, o + n, none⟩) (xs.drop n) := fun j z hj => by
  rw [List.getElem?_drop] at hj
  refine ⟨b, o + n, rfl, ?_⟩
  rw [Nat.add_assoc]
  exact h.cell hj
theorem At.take {w : World} {a : Option Addr} {xs : List Int} (h : At w a xs) (n : Nat) : At w a (xs.take n) := fun j z hj => by
  rw [List.getElem?_take] at hj
  split at hj
  · exact h j z hj
  · cases hj
theorem At.nil {w : World} {a : Option Addr} : At w a [] := fun j z hj => by simp at hj

/-- one byte more -/
def step (t : Int × Int) (x : Int) : Int × Int := ((t.1 + x) % 4294967296, (t.2 + (t.1 + x) % 4294967296) % 4294967296)
def run (t : Int × Int) (c : List Int) : Int × Int := c.foldl step t
/-- chunk by chunk -/
def ad : Nat → Int × Int → List Int → Int × Int
  | 0, t, _ => t
  | n + 1, t, r => if r.length = 0 then t else ad n ((run t (r.take 5552)).1.tmod 65521, (run t (r.take 5552)).2.tmod 65521) (r.drop 5552)
theorem ad_nil (n : Nat) (t : Int × Int) : ad n t [] = t := by cases n <;> simp [ad]
theorem run_four (t : Int × Int) {c : List Int} {x0 x1 x2 x3 : Int} (h0 : c[0]? = some x0) (h1 : c[1]? = some x1) (h2 : c[2]? = some x2) (h3 : c[3]? = some x3) : run t c = run (step (step (step (step t x0) x1) x2) x3) (c.drop 4) := by
  match c, h0, h1, h2, h3 with
  | y0 :: y1 :: y2 :: y3 :: c, h0, h1, h2, h3 =>
    simp at h0 h1 h2 h3
    subst h0 h1 h2 h3
    rfl
theorem run_one (t : Int × Int) {c : List Int} {j : Nat} {x : Int} (h : c[j]? = some x) : run t (c.drop j) = run (step t x) (c.drop (j + 1)) := by
  obtain ⟨hl, rfl⟩ := List.getElem?_eq_some_iff.1 h
  rw [List.drop_eq_getElem_cons hl]
  rfl
def adler (xs : List Int) : Int := bits BinOp.or .u32 ((ad xs.length (bits BinOp.and .u32 1 65535, 0) xs).2 * 65536 % 4294967296) (ad xs.length (bits BinOp.and .u32 1 65535, 0) xs).1

set_option maxHeartbeats 3200000 in
set_option maxRecDepth 20000 in
theorem update29 (a : Option Addr) (cap : Nat) (xs : List Int) (w : World) (h : At w a xs) (hc : xs.length ≤ cap) :
    Calls Try.prog 29 #[.int .u32 1, .slice a xs.length cap] w fun e w' => e = .returned (.int .u32 (adler xs)) ∧ ∃ n, w' = w.drewN n := by
  unfold adler
  obtain ⟨T, hT⟩ : ∃ T, ad xs.length (bits BinOp.and .u32 1 65535, 0) xs = T := ⟨_, rfl⟩
  rw [hT]
  have H := Lib.hid h
  have HT := Lib.hid hT
  clear h hT
  go_enter Try.func29, Try.ntmps29
  go_wp2
  go_loopw [1, 5, 6] (fun p s1 s2 wr => ∃ (r : List Int) (a : Option Addr) (cap nn f : Nat) (t1 t2 : Int), p = .slice a r.length cap ∧ s1 = .int .u32 t1 ∧ s2 = .int .u32 t2 ∧ wr = w.drewN nn ∧ Hid (At w a r) ∧ r.length ≤ cap ∧ Hid (r.length ≤ f) ∧ Hid (ad f (t1, t2) r = T)) (fun p _ _ _ => lenOf p)
  case atStart => exact ⟨xs, a, cap, 0, xs.length, _, _, rfl, rfl, rfl, rfl, H, hc, (show _ ≤ _ from Nat.le_refl _), HT⟩
  case round =>
    obtain ⟨r, a, cap, nn, f, t1, t2, rfl, rfl, rfl, rfl, HA, hcap, HR, HAD⟩ := hrel
    by_cases h0 : 0 < r.length
    · obtain ⟨x, hx⟩ : ∃ x, r[0]? = some x := ⟨_, List.getElem?_eq_getElem h0⟩
      obtain ⟨b, o, rfl, hcell⟩ := HA.out 0 x hx
      clear hx hcell
      have h0i : (0 : Int) < (r.length : Int) := by omega
      obtain ⟨f', rfl⟩ : ∃ f', f = f' + 1 := ⟨f - 1, by have := HR.out; omega⟩
      have had : ad f' ((run (t1, t2) (r.take 5552)).1.tmod 65521, (run (t1, t2) (r.take 5552)).2.tmod 65521) (r.drop 5552) = T := by
        have := HAD.out
        rw [ad, if_neg (by omega)] at this
        exact this
      have HAD' := Lib.hid had
      have hrd : (r.drop 5552).length ≤ f' := by have := HR.out; rw [List.length_drop]; omega
      have HR' := Lib.hid hrd
      clear had hrd HAD HR
      by_cases h1 : (5552 : Int) < (r.length : Int)
      · have h2 : (5552 : Int) ≤ (cap : Int) := by omega
        have h3 : (5552 : Int) ≤ (r.length : Int) := by omega
        have HTK := Lib.hid (HA.out.take 5552)
        have HDR := Lib.hid (HA.out.drop 5552)
        have hrl : (r.drop 5552).length = r.length - 5552 := List.length_drop
        have hkl : (r.take 5552).length = 5552 := by rw [List.length_take]; omega
        have HRL := Lib.hid hrl
        have hrr : r.length - 5552 < r.length := by omega
        have hrc : r.length - 5552 ≤ cap - 5552 := by omega
        clear hrl
        go_wp2
        go_quiet (fail)
        go_wp2
        go_loopw [1, 5, 6] (fun p s1 s2 wr => ∃ (c : List Int) (a : Option Addr) (cap : Nat) (t3 t4 : Int), p = .slice a c.length cap ∧ s1 = .int .u32 t3 ∧ s2 = .int .u32 t4 ∧ wr = w.drewN (nn + nq) ∧ Hid (At w a c) ∧ c.length ≤ cap ∧ Hid (run (t3, t4) c = run (t1, t2) (r.take 5552))) (fun p _ _ _ => lenOf p)
        case atStart => exact ⟨r.take 5552, _, cap, t1, t2, by rw [hkl], rfl, rfl, World.drewN_drewN _ _ _, HTK, by rw [hkl]; omega, (show _ = _ from rfl)⟩
        case round =>
          obtain ⟨c, a', cap', s1, s2, rfl, rfl, rfl, rfl, HA', hcap', HF⟩ := hrel
          by_cases h4 : 4 ≤ c.length
          · obtain ⟨x0, e0⟩ : ∃ x, c[0]? = some x := ⟨_, List.getElem?_eq_getElem (by omega)⟩
            obtain ⟨x1, e1⟩ : ∃ x, c[1]? = some x := ⟨_, List.getElem?_eq_getElem (by omega)⟩
            obtain ⟨x2, e2⟩ : ∃ x, c[2]? = some x := ⟨_, List.getElem?_eq_getElem (by omega)⟩
            obtain ⟨x3, e3⟩ : ∃ x, c[3]? = some x := ⟨_, List.getElem?_eq_getElem (by omega)⟩
            obtain ⟨b', o', rfl, k0⟩ := HA'.out 0 x0 e0
            have k1 := HA'.out.cell e1
            have k2 := HA'.out.cell e2
            have k3 := HA'.out.cell e3
            have k0' : w.cell? ⟨b', o', none⟩ = some (.int .u8 x0) := k0
            have h4i : (4 : Int) ≤ (c.length : Int) := by omega
            have hrun := run_four (s1, s2) e0 e1 e2 e3
            have HRUN := Lib.hid hrun
            have hln : c.length - 4 ≤ cap' - 4 := by omega
            clear e0 e1 e2 e3 k0 hrun
            go_wp2
            go_roundw
            case rel =>
              refine ⟨c.drop 4, _, cap' - 4, _, _, by rw [List.length_drop], rfl, rfl, trivial, ?_, by rw [List.length_drop]; exact hln, ?_⟩
              · show At _ _ _
                by_cases hc4 : cap' = 4
                · rw [if_pos hc4, List.drop_of_length_le (by omega)]
                  exact At.nil
                · rw [if_neg hc4]
                  exact HA'.out.drop 4
              · show run _ _ = _
                rw [← HF.out, HRUN.out]
                congr 1
                unfold step
                simp only [Prod.mk.injEq]
                constructor <;> omega
            case measure => simp [lenOf]; omega
          · have h4i : ¬ (4 : Int) ≤ (c.length : Int) := by omega
            go_wp2
            go_loopw [5, 6, 67] (fun s1 s2 i wr => ∃ (j : Nat) (t3 t4 : Int), i = .int .i64 j ∧ s1 = .int .u32 t3 ∧ s2 = .int .u32 t4 ∧ wr = w.drewN (nn + nq) ∧ j ≤ c.length ∧ Hid (run (t3, t4) (c.drop j) = run (t1, t2) (r.take 5552))) (fun _ _ i _ => c.length - (RowKit.intOf i).toNat)
            case atStart => exact ⟨0, s1, s2, rfl, rfl, rfl, rfl, by omega, HF⟩
            case round =>
              clear HF
              obtain ⟨j, u1, u2, rfl, rfl, rfl, rfl, hj, HF⟩ := hrel
              by_cases hjl : j < c.length
              · obtain ⟨x, hx⟩ : ∃ x, c[j]? = some x := ⟨_, List.getElem?_eq_getElem hjl⟩
                obtain ⟨b', o', rfl, hk⟩ := HA'.out j x hx
                have hji : (j : Int) < (c.length : Int) := by omega
                have hrun := run_one (u1, u2) hx
                have HRUN := Lib.hid hrun
                clear hx hrun
                go_wp2
                go_roundw
                case rel =>
                  refine ⟨j + 1, _, _, by go_num, rfl, rfl, trivial, by omega, ?_⟩
                  show run _ _ = _
                  rw [← HF.out, HRUN.out]
                  congr 1
                  unfold step
                  simp only [Prod.mk.injEq]
                  exact ⟨by omega, trivial⟩
                case measure => simp [RowKit.intOf]; omega
              · obtain rfl : j = c.length := by omega
                go_wp2
                go_roundw
                case rel => exact ⟨r.drop 5552, _, cap - 5552, _, f', _, _, by rw [HRL.out], rfl, rfl, rfl, HDR, by rw [HRL.out]; exact hrc, HR', (show _ = _ by have hh := HF.out; rw [List.drop_length] at hh; have hq : (u1, u2) = run (t1, t2) (r.take 5552) := hh; have := HAD'.out; rw [← hq] at this; exact this)⟩
                case measure => simp [lenOf]; omega
      · have h1' : ¬ (5552 : Int) < (r.length : Int) := h1
        have htk : r.take 5552 = r := List.take_of_length_le (by omega)
        have hdr : r.drop 5552 = [] := List.drop_of_length_le (by omega)
        rw [htk, hdr] at HAD'
        clear htk hdr HR'
        go_wp2
        go_loopw [1, 5, 6] (fun p s1 s2 wr => ∃ (c : List Int) (a : Option Addr) (cap : Nat) (t3 t4 : Int), p = .slice a c.length cap ∧ s1 = .int .u32 t3 ∧ s2 = .int .u32 t4 ∧ wr = w.drewN nn ∧ Hid (At w a c) ∧ c.length ≤ cap ∧ Hid (run (t3, t4) c = run (t1, t2) (r))) (fun p _ _ _ => lenOf p)
        case atStart => exact ⟨r, _, cap, t1, t2, rfl, rfl, rfl, rfl, HA, hcap, (show _ = _ from rfl)⟩
        case round =>
          obtain ⟨c, a', cap', s1, s2, rfl, rfl, rfl, rfl, HA', hcap', HF⟩ := hrel
          by_cases h4 : 4 ≤ c.length
          · obtain ⟨x0, e0⟩ : ∃ x, c[0]? = some x := ⟨_, List.getElem?_eq_getElem (by omega)⟩
            obtain ⟨x1, e1⟩ : ∃ x, c[1]? = some x := ⟨_, List.getElem?_eq_getElem (by omega)⟩
            obtain ⟨x2, e2⟩ : ∃ x, c[2]? = some x := ⟨_, List.getElem?_eq_getElem (by omega)⟩
            obtain ⟨x3, e3⟩ : ∃ x, c[3]? = some x := ⟨_, List.getElem?_eq_getElem (by omega)⟩
            obtain ⟨b', o', rfl, k0⟩ := HA'.out 0 x0 e0
            have k1 := HA'.out.cell e1
            have k2 := HA'.out.cell e2
            have k3 := HA'.out.cell e3
            have k0' : w.cell? ⟨b', o', none⟩ = some (.int .u8 x0) := k0
            have h4i : (4 : Int) ≤ (c.length : Int) := by omega
            have hrun := run_four (s1, s2) e0 e1 e2 e3
            have HRUN := Lib.hid hrun
            have hln : c.length - 4 ≤ cap' - 4 := by omega
            clear e0 e1 e2 e3 k0 hrun
            go_wp2
            go_roundw
            case rel =>
              refine ⟨c.drop 4, _, cap' - 4, _, _, by rw [List.length_drop], rfl, rfl, trivial, ?_, by rw [List.length_drop]; exact hln, ?_⟩
              · show At _ _ _
                by_cases hc4 : cap' = 4
                · rw [if_pos hc4, List.drop_of_length_le (by omega)]
                  exact At.nil
                · rw [if_neg hc4]
                  exact HA'.out.drop 4
              · show run _ _ = _
                rw [← HF.out, HRUN.out]
                congr 1
                unfold step
                simp only [Prod.mk.injEq]
                constructor <;> omega
            case measure => simp [lenOf]; omega
          · have h4i : ¬ (4 : Int) ≤ (c.length : Int) := by omega
            go_wp2
            go_loopw [5, 6, 67] (fun s1 s2 i wr => ∃ (j : Nat) (t3 t4 : Int), i = .int .i64 j ∧ s1 = .int .u32 t3 ∧ s2 = .int .u32 t4 ∧ wr = w.drewN nn ∧ j ≤ c.length ∧ Hid (run (t3, t4) (c.drop j) = run (t1, t2) (r))) (fun _ _ i _ => c.length - (RowKit.intOf i).toNat)
            case atStart => exact ⟨0, s1, s2, rfl, rfl, rfl, rfl, by omega, HF⟩
            case round =>
              clear HF
              obtain ⟨j, u1, u2, rfl, rfl, rfl, rfl, hj, HF⟩ := hrel
              by_cases hjl : j < c.length
              · obtain ⟨x, hx⟩ : ∃ x, c[j]? = some x := ⟨_, List.getElem?_eq_getElem hjl⟩
                obtain ⟨b', o', rfl, hk⟩ := HA'.out j x hx
                have hji : (j : Int) < (c.length : Int) := by omega
                have hrun := run_one (u1, u2) hx
                have HRUN := Lib.hid hrun
                clear hx hrun
                go_wp2
                go_roundw
                case rel =>
                  refine ⟨j + 1, _, _, by go_num, rfl, rfl, trivial, by omega, ?_⟩
                  show run _ _ = _
                  rw [← HF.out, HRUN.out]
                  congr 1
                  unfold step
                  simp only [Prod.mk.injEq]
                  exact ⟨by omega, trivial⟩
                case measure => simp [RowKit.intOf]; omega
              · obtain rfl : j = c.length := by omega
                go_wp2
                go_roundw
                case rel => exact ⟨[], none, 0, _, f', _, _, rfl, rfl, rfl, rfl, At.nil, by simp, (show _ ≤ _ by simp), (show _ = _ by have hh := HF.out; rw [List.drop_length] at hh; have hq : (u1, u2) = run (t1, t2) r := hh; have := HAD'.out; rw [← hq] at this; exact this)⟩
                case measure => simp [lenOf]; omega
    · have hr0 : r = [] := List.length_eq_zero_iff.1 (by omega)
      have hh := HAD.out
      rw [hr0, ad_nil] at hh
      subst hh
      clear HAD HR HA hr0
      go_wp2
      go_ret
      exact ⟨rfl, _, rfl⟩
end Go.Proofs.Qxb6608607a
