import Derived.Test.Qxb6608607aRows
import Derived.Test.Qxb6608607aLaw
import Derived.WalkKit
import Derived.ProofKit
import Derived.OpenShut
import Derived.ShutString
import Derived.ChangeOld
import Derived.Below
namespace Go.Proofs.Qxb6608607a
open Go.ChangeShapes Go.WideShapes Go.ChangeAt Go.RowKit

theorem own : ownKnob Try.prog.godebug = none := by kernel_rfl
theorem laidOut : laidOutB Try.prog = true := by kernel_rfl
theorem cells5 : Try.prog.cellsOf 5 = 1 := by kernel_rfl
theorem cells30 : Try.prog.cellsOf 30 = 4 := by kernel_rfl

theorem ints_of_cells : ∀ (cs : List Value), (∀ i, i < cs.length → ∃ z : Int, cs[i]? = some (.int .u8 z)) → ∃ zs : List Int, cs = bts zs
  | [], _ => ⟨[], rfl⟩
  | c :: cs, h => by
    obtain ⟨zs, hs⟩ := ints_of_cells cs (fun i hi => by
      obtain ⟨b, hb⟩ := h (i + 1) (by simp; omega)
      exact ⟨b, by simpa using hb⟩)
    obtain ⟨b, hb⟩ := h 0 (by simp)
    simp at hb
    exact ⟨b :: zs, by simp [bts, hb] at hs ⊢; exact hs⟩
theorem list4 {zs : List Int} (h : zs.length = 4) : ∃ a b c d, zs = [a, b, c, d] := by
  match zs, h with
  | [a, b, c, d], _ => exact ⟨a, b, c, d, rfl⟩
/-- an array of four bytes, opened -/
theorem open4 {H : Type} {enc : TypeId × Value → H} {W : World} {base : Nat} {v : Value} {d : DataW H} {p : List MemPlace} (hv : Value.okWide Try.prog W .any base 30 v) (h : DataW.Trod enc Try.prog W 0 (fun _ => true) true 30 v d p) :
    ∃ j0 j1 j2 j3 : Int, v = .agg #[.int .u8 j0, .int .u8 j1, .int .u8 j2, .int .u8 j3] := by
  obtain ⟨cs, rfl, hsz, _⟩ : ∃ cs, v = .agg cs ∧ cs.size = Try.prog.cellsOf 30 ∧ Row.okWide Try.prog W .any base 30 cs := by simpa [Value.okWide, Try.underlying30] using hv
  rw [cells30] at hsz
  obtain ⟨fuel, hf⟩ := h
  obtain ⟨xs, m, rfl, -, -, hxl, hel⟩ := DataW.trod_array Try.underlying30 hf
  obtain ⟨l⟩ := cs
  have hl : l.length = 4 := by simpa using hsz
  obtain ⟨zs, rfl⟩ := ints_of_cells l (fun i hi => by
    have h1 := hel i (by omega)
    rw [List.getElem?_eq_getElem (by omega)] at h1
    obtain ⟨n, hc, -, hw⟩ := DataW.trod_int Try.underlying5 h1
    refine ⟨n, ?_⟩
    rw [cells5] at hc
    have := congrArg (·[0]?) hc
    simp only [Value.cells, Nat.mul_one, List.getElem?_take, List.getElem?_drop] at this
    simp only [Nat.zero_lt_one, if_true, Nat.add_zero, List.getElem?_cons_zero] at this
    exact this)
  rw [bts_length] at hl
  obtain ⟨j0, j1, j2, j3, rfl⟩ := list4 hl
  exact ⟨j0, j1, j2, j3, rfl⟩
theorem open_came {H : Type} {enc : TypeId × Value → H} {W : World} {a : Option Addr} {len cap : Nat} {d : DataW H} {p : List MemPlace} (h : DataW.Trod enc Try.prog W 0 (fun _ => true) true 22 (.slice a len cap) d p) :
    ∃ xs : List Int, xs.length = len ∧ Came W a cap xs := by
  obtain ⟨fuel, hf⟩ := h
  rcases open_ints Try.underlying22 Try.underlying5 (by kernel_rfl) hf with ⟨hcs, _⟩ | ⟨x, l, c, zs, hcs, _, hl, hm, hz, _, hcell, hwz⟩
  · simp [Value.cells] at hcs
    obtain ⟨rfl, rfl, rfl⟩ := hcs
    exact ⟨[], rfl, At.nil, fun _ => ⟨rfl, rfl⟩, by simp⟩
  · simp [Value.cells] at hcs
    obtain ⟨rfl, rfl, rfl⟩ := hcs
    have hzl : zs.length = cap := by simpa using hz
    refine ⟨zs.take len, by rw [List.length_take]; omega, fun j z hj => ?_, fun e => (by cases e), by rw [List.length_take]; omega⟩
    rw [List.getElem?_take] at hj
    split at hj
    · rename_i hjl
      obtain ⟨b, off, rfl, hc⟩ := ints_at hcell (by omega)
      refine ⟨b, off, rfl, ?_⟩
      rw [hc j (by omega)]
      simp [List.getD, hj]
    · cases hj

set_option maxRecDepth 100000 in
theorem lifted4 (os : Os) (started : os.Started) (H : Type) (enc : TypeId × Value → H) :
    ReturnsInHanded {} Try.checked os 4 .any (Rows.fnWithAdlerAgreesWithPutAdlerSpec.pre6 enc Try.prog Try.f4 Rows.fnWithAdlerAgreesWithPutAdlerRow.domain false) (Rows.fnWithAdlerAgreesWithPutAdlerSpec.post enc Try.prog Try.f4 false true false false) := by
  refine returnsInHanded_of_change (C := Try.checked) own started (by kernel_rfl) Try.func4
    (ChangeSpec.witness6 (enc := enc) (C := Try.checked) false ⟨#[], #[.slice none 0 0, .slice none 0 0, .slice none 0 0, .agg #[.int .u8 0, .int .u8 0, .int .u8 0, .int .u8 0]], []⟩ 8 (by kernel_rfl) (by kernel_rfl) (by kernel_rfl) (by kernel_rfl)) ?_
  intro W base args ds gs before hval0 hW hcnd _
  have hval : ∀ (j : Nat) t v, Try.f4.params[j]? = some t → args[j]? = some v → Value.okWide Try.prog W .any base t v := hval0
  have hW' := hW
  obtain ⟨p, q, hA0, hV, rfl, hfz, hnd⟩ := hW
  have hA : DataW.TrodAll enc Try.prog W 0 (fun _ => true) true Try.f4.params.toList args.toList ds p := hA0
  rw [Try.params4] at hA hval
  obtain ⟨v0, vs0, d0, ds0, p0, q0, hargs, rfl, rfl, h0, r0⟩ := trodAll_cons hA
  obtain ⟨v1, vs1, d1, ds1, p1, q1, rfl, rfl, rfl, h1, r1⟩ := trodAll_cons r0
  obtain ⟨v2, vs2, d2, ds2, p2, q2, rfl, rfl, rfl, h2, r2⟩ := trodAll_cons r1
  obtain ⟨v3, vs3, d3, ds3, p3, q3, rfl, rfl, rfl, h3, r3⟩ := trodAll_cons r2
  obtain ⟨rfl, rfl, rfl⟩ := trodAll_nil r3
  obtain rfl : args = #[v0, v1, v2, v3] := by cases args; simp_all
  obtain ⟨rfl, rfl⟩ := trodVars_none hV
  obtain ⟨a0, len0, cap0, rfl⟩ := okWide_slice Try.underlying22 (hval 0 22 v0 rfl rfl)
  obtain ⟨a1, len1, cap1, rfl⟩ := okWide_slice Try.underlying22 (hval 1 22 v1 rfl rfl)
  obtain ⟨a2, len2, cap2, rfl⟩ := okWide_slice Try.underlying22 (hval 2 22 v2 rfl rfl)
  have lt0 : ∀ x ∈ p0, x.block < W.heap.size := by obtain ⟨m, hm⟩ := h0; exact DataW.trod_lt m _ _ _ hm
  have lt1 : ∀ x ∈ p1, x.block < W.heap.size := by obtain ⟨m, hm⟩ := h1; exact DataW.trod_lt m _ _ _ hm
  have lt2 : ∀ x ∈ p2, x.block < W.heap.size := by obtain ⟨m, hm⟩ := h2; exact DataW.trod_lt m _ _ _ hm
  have lt3 : ∀ x ∈ p3, x.block < W.heap.size := by obtain ⟨m, hm⟩ := h3; exact DataW.trod_lt m _ _ _ hm
  obtain ⟨xs0, rfl, w0⟩ := open_came h0
  obtain ⟨xs1, rfl, w1⟩ := open_came h1
  obtain ⟨xs2, rfl, w2⟩ := open_came h2
  obtain ⟨j0, j1, j2, j3, rfl⟩ := open4 (hval 3 30 v3 rfl rfl) h3
  clear hA0 hval0
  refine (law_any a0 a1 a2 cap0 cap1 cap2 xs0 xs1 xs2 j0 j1 j2 j3 W w0 w1 w2).mono fun e W' ⟨he, bel⟩ => ?_
  subst he
  exact ⟨_, rfl, _, _, _, [], _, [], hW', trodAll_mk1 (shut_bool Try.underlying4 _), (trodAll_cons_mk (Below.trod laidOut (by kernel_rfl) (of_decide_eq_true (by kernel_rfl)) h0 bel lt0) (trodAll_cons_mk (Below.trod laidOut (by kernel_rfl) (of_decide_eq_true (by kernel_rfl)) h1 bel lt1) (trodAll_cons_mk (Below.trod laidOut (by kernel_rfl) (of_decide_eq_true (by kernel_rfl)) h2 bel lt2) (trodAll_cons_mk (Below.trod laidOut (by kernel_rfl) (of_decide_eq_true (by kernel_rfl)) h3 bel lt3) trodAll_mk0)))), rfl, bel.frame _, fun h => by cases h⟩

theorem over4 : Rows.fnWithAdlerAgreesWithPutAdlerRow.holds Try.pinned (OpenSpec.ofChange Rows.fnWithAdlerAgreesWithPutAdlerSpec) :=
  OpenClaim.holds_of_wide 4 Try.f4 rfl rfl rfl rfl rfl rfl rfl ⟨rfl, rfl, rfl, rfl, rfl⟩ rfl rfl rfl rfl rfl (by kernel_rfl) Try.func4 (by kernel_rfl)
    (of_decide_eq_true (by kernel_rfl)) (by unfold Func.isWrapper; first | (rw [if_pos (by decide +kernel)]; kernel_rfl) | (rw [if_neg (by decide +kernel)]; exact ⟨rfl, rfl⟩))
    (fun os started H enc _ => lifted4 os started H enc)

theorem proved4 : Rows.FnWithAdlerAgreesWithPutAdlerSaid := over4
end Go.Proofs.Qxb6608607a
