import Derived.Test.Qxb6614863aDoorOpen
import Derived.Test.Qxb6614863aDoorCards
import Derived.Test.Qxb6614863aDoorTie
namespace Go.Proofs.Qxb6614863aDoor
open Go.ChangeShapes Go.WideShapes Go.ChangeAt Go.WideMaps Go.WideElems Go.RowKit

set_option maxRecDepth 100000 in
theorem lifted6 (os : Os) (started : os.Started) (H : Type) (enc : TypeId × Value → H) :
    ReturnsInHanded {} Tryd.checked os 6 .any (fun w args => (Rows.fnGTIDStringIdentifiesSourceAndNumberSpec.pre enc Tryd.prog Tryd.f6 [] false w args ∧ laidMetH Tryd.prog laid3 w) ∧ sizedMet enc Tryd.prog Tryd.f6 (OpenSpec.ofChange Rows.fnGTIDStringIdentifiesSourceAndNumberSpec) false w args)
      (Rows.fnGTIDStringIdentifiesSourceAndNumberSpec.post enc Tryd.prog Tryd.f6 false true false false) := by
  refine returnsInHanded_of_change_and (C := Tryd.checked) (X := fun w _ => laidMetH Tryd.prog laid3 w) (fun _ _ _ hh h => h.of_heap hh) own started (by kernel_rfl) Tryd.func6
    (ChangeSpec.witness_shaped (enc := enc) (C := Tryd.checked) (os := os) (X := fun w _ => laidMetH Tryd.prog laid3 w) false (World.doorLaid Tryd.prog 400 os) #[.int .u8 0, .agg (Array.replicate 16 (.int .u8 0)), .int .u64 0, .int .u8 0, .agg (Array.replicate 16 (.int .u8 0)), .int .u64 0] 8 rfl (World.shaped_of_RefB (by kernel_rfl) (by kernel_rfl)) (by kernel_rfl) (by kernel_rfl) (by kernel_rfl) (door_met os _)) ?_
  intro W base args ds gs before hval0 hW _ _ hL _
  have hval : ∀ (j : Nat) t v, Tryd.f6.params[j]? = some t → args[j]? = some v → Value.okWide Tryd.prog W .any base t v := hval0
  have hW' := hW
  obtain ⟨p, q, hA0, hV, rfl, hfz, hnd⟩ := hW
  have hA : DataW.TrodAll enc Tryd.prog W 0 (fun _ => true) true Tryd.f6.params.toList args.toList ds p := hA0
  rw [Tryd.params6] at hA hval
  obtain ⟨v0, vs0, d0, ds0, p0, q0, hargs, rfl, rfl, h0, r0⟩ := trodAll_cons hA
  obtain ⟨v1, vs1, d1, ds1, p1, q1, rfl, rfl, rfl, h1, r1⟩ := trodAll_cons r0
  obtain ⟨v2, vs2, d2, ds2, p2, q2, rfl, rfl, rfl, h2, r2⟩ := trodAll_cons r1
  obtain ⟨v3, vs3, d3, ds3, p3, q3, rfl, rfl, rfl, h3, r3⟩ := trodAll_cons r2
  obtain ⟨v4, vs4, d4, ds4, p4, q4, rfl, rfl, rfl, h4, r4⟩ := trodAll_cons r3
  obtain ⟨v5, vs5, d5, ds5, p5, q5, rfl, rfl, rfl, h5, r5⟩ := trodAll_cons r4
  obtain ⟨rfl, rfl, rfl⟩ := trodAll_nil r5
  obtain rfl : args = #[v0, v1, v2, v3, v4, v5] := by cases args; simp_all
  obtain ⟨rfl, rfl⟩ := trodVars_none hV
  have k1 := h1
  have k4 := h4
  have lt1 : ∀ x ∈ p1, x.block < W.heap.size := by obtain ⟨m, hm⟩ := k1; exact DataW.trod_lt m _ _ _ hm
  have lt4 : ∀ x ∈ p4, x.block < W.heap.size := by obtain ⟨m, hm⟩ := k4; exact DataW.trod_lt m _ _ _ hm
  obtain ⟨a0, rfl, rfl, rfl, w0⟩ := open_int Tryd.underlying5 (hval 0 5 v0 rfl rfl) h0
  obtain ⟨a2, rfl, rfl, rfl, w2⟩ := open_int Tryd.underlying26 (hval 2 26 v2 rfl rfl) h2
  obtain ⟨a3, rfl, rfl, rfl, w3⟩ := open_int Tryd.underlying5 (hval 3 5 v3 rfl rfl) h3
  obtain ⟨a5, rfl, rfl, rfl, w5⟩ := open_int Tryd.underlying26 (hval 5 26 v5 rfl rfl) h5
  obtain ⟨s1, hs1, rfl⟩ := open16 (hval 1 25 v1 rfl rfl) h1
  obtain ⟨s4, hs4, rfl⟩ := open16 (hval 4 25 v4 rfl rfl) h4
  have b2 := bounds_u64 w2
  have b5 := bounds_u64 w5
  obtain ⟨u2, rfl⟩ := Int.eq_ofNat_of_zero_le b2.1
  obtain ⟨u5, rfl⟩ := Int.eq_ofNat_of_zero_le b5.1
  clear hA0 hval0
  refine (law6 a0 a3 s1 s4 u2 u5 W hs1 hs4 (by omega) (by omega) (Lib.tabBelow_of_tabIs (tab_of_laid hL))).mono fun e W' ⟨he, bel⟩ => ?_
  subst he
  exact ⟨_, rfl, _, _, _, [], _, [], hW', trodAll_mk1 (shut_bool Tryd.underlying4 _), (trodAll_cons_mk (shut_int Tryd.underlying5 w0) (trodAll_cons_mk (Below.trod laidOut (by kernel_rfl) (of_decide_eq_true (by kernel_rfl)) k1 bel lt1) (trodAll_cons_mk (shut_int Tryd.underlying26 w2) (trodAll_cons_mk (shut_int Tryd.underlying5 w3) (trodAll_cons_mk (Below.trod laidOut (by kernel_rfl) (of_decide_eq_true (by kernel_rfl)) k4 bel lt4) (trodAll_cons_mk (shut_int Tryd.underlying26 w5) trodAll_mk0)))))), rfl, bel.frame _, fun h => by cases h⟩

theorem row6_holds : Rows.FnGTIDStringIdentifiesSourceAndNumberSaid :=
  OpenClaim.holds_of_wide 6 Tryd.f6 rfl rfl rfl rfl rfl rfl rfl ⟨rfl, rfl, rfl, rfl, rfl⟩ rfl rfl rfl rfl rfl (by kernel_rfl) Tryd.func6 (by kernel_rfl)
    (of_decide_eq_true (by kernel_rfl)) (by unfold Func.isWrapper; first | (rw [if_pos (by decide +kernel)]; kernel_rfl) | (rw [if_neg (by decide +kernel)]; exact ⟨rfl, rfl⟩))
    (fun os started H enc _ => lifted6 os started H enc)

theorem proved6 : Rows.FnGTIDStringIdentifiesSourceAndNumberCardSaid :=
  Claim7.holds_tied_plain_at .later [] [.data, .data, .data] true Rows.fnGTIDStringIdentifiesSourceAndNumberCard.stood.harness false
    row6_holds (fun _ h => by cases h) (by kernel_rfl) (fun _ h => by cases h) fnGTIDStringIdentifiesSourceAndNumber_row_tie rfl ⟨rfl, rfl⟩ (by kernel_rfl) rfl
    (fun f fn hf hfn => by
      obtain rfl : f = 6 := Option.some.inj ((show Tryd.prog.funcNamed Rows.fnGTIDStringIdentifiesSourceAndNumberRow.func = some 6 by kernel_rfl).symm.trans hf) |>.symm
      obtain rfl : fn = Tryd.f6 := (Option.some.inj (Tryd.func6.symm.trans hfn)).symm
      exact ⟨by kernel_rfl, fun j t ht => by
        rw [Tryd.params6] at ht
        have hm : t ∈ [5, 25, 26, 5, 25, 26] := by simpa using Array.mem_of_getElem? ht
        have hall : ([5, 25, 26, 5, 25, 26].all fun u => !Tryd.prog.wantsStandIn u) = true := by kernel_rfl
        exact (show Tryd.prog.wantsStandIn t = false by simpa using List.all_eq_true.1 hall t hm)⟩)
    (by kernel_rfl)
end Go.Proofs.Qxb6614863aDoor
