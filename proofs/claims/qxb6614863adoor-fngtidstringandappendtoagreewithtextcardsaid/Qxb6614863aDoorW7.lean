import Derived.Test.Qxb6614863aDoorW6
import Derived.Deep.WholeRow
import Derived.ChangeKeysEq
namespace Go.Proofs.Qxb6614863aDoor
open Go.RowKit Go.Lib

theorem built32 (f : Int) (src : List UInt8) (u : Nat) (hs : src.length = 16) :
    Tryd.prog.built 32 [(0, .int .u8 f), (1, .agg (Lib.byteCells src).toArray), (2, .int .u64 (u : Int))] = some (gcells f src u).toArray := by
  obtain ⟨a0, a1, a2, a3, a4, a5, a6, a7, a8, a9, a10, a11, a12, a13, a14, a15, rfl⟩ := list16 hs
  kernel_rfl

theorem load25 {ops : Array Oper} {rest : List Oper} {o : Oper} {a : Act} {w : World} {Q : Exit → Act → World → Prop} (hgd : o.guard = none) (x : Operand) (ho : o.op = .load 25 x)
    (g : Nat) (hx : a.eval x = .pointer (some ⟨g, 0, none⟩)) (src : List UInt8) (hs : src.length = 16) (hg : w.heap[g]? = some (.cells (Lib.byteCells src).toArray 25 (0, 0)))
    (h : wpList Tryd.prog ops Q rest (a.put o.dst (.agg (Lib.byteCells src).toArray)) w) : wpList Tryd.prog ops Q (o :: rest) a w :=
  wpList_load_row hgd 25 x ho g hx 25 _ (0, 0) _ hg Tryd.underlying25 rfl (by simp only [List.size_toArray, Lib.byteCells, List.length_map, hs]; exact info25) h

theorem load32 {ops : Array Oper} {rest : List Oper} {o : Oper} {a : Act} {w : World} {Q : Exit → Act → World → Prop} (hgd : o.guard = none) (x : Operand) (ho : o.op = .load 32 x)
    (g : Nat) (hx : a.eval x = .pointer (some ⟨g, 0, none⟩)) (f : Int) (src : List UInt8) (u : Nat) (hs : src.length = 16) (hg : w.heap[g]? = some (.cells (gcells f src u).toArray 32 (0, 0)))
    (h : wpList Tryd.prog ops Q rest (a.put o.dst (.agg (gcells f src u).toArray)) w) : wpList Tryd.prog ops Q (o :: rest) a w :=
  wpList_load_row hgd 32 x ho g hx 32 _ (0, 0) _ hg Tryd.underlying32 rfl (by simp only [List.size_toArray, gcells_length hs]; exact info32) h

theorem build32 {ops : Array Oper} {rest : List Oper} {o : Oper} {a : Act} {w : World} {Q : Exit → Act → World → Prop} (hgd : o.guard = none) (x0 x1 x2 : Operand) (ho : o.op = .build 32 #[(0, x0), (1, x1), (2, x2)])
    (f : Int) (src : List UInt8) (u : Nat) (hs : src.length = 16) (h0 : a.eval x0 = .int .u8 f) (h1 : a.eval x1 = .agg (Lib.byteCells src).toArray) (h2 : a.eval x2 = .int .u64 (u : Int))
    (h : wpList Tryd.prog ops Q rest (a.put o.dst (.agg (gcells f src u).toArray)) w) : wpList Tryd.prog ops Q (o :: rest) a w := by
  have e : (#[(0, x0), (1, x1), (2, x2)].map fun (p : Nat × Operand) => (p.1, a.eval p.2)).toList = [(0, .int .u8 f), (1, .agg (Lib.byteCells src).toArray), (2, .int .u64 (u : Int))] := by simp [h0, h1, h2]
  have hb : Tryd.prog.built 32 (#[(0, x0), (1, x1), (2, x2)].map fun (p : Nat × Operand) => (p.1, a.eval p.2)).toList = some (gcells f src u).toArray := by rw [e]; exact built32 f src u hs
  refine wpList_build hgd 32 _ ho (by rw [hb]; rfl) ?_
  rw [hb]
  exact h

theorem oneCell_gcells (f : Int) (src : List UInt8) (u : Nat) : ∀ v ∈ gcells f src u, v.oneCell' = true := by
  intro v hv
  simp only [gcells, Lib.byteCells, List.mem_cons, List.mem_append, List.mem_map, List.not_mem_nil, or_false] at hv
  rcases hv with rfl | ⟨b, _, rfl⟩ | rfl <;> rfl

theorem store32 {ops : Array Oper} {rest : List Oper} {o : Oper} {a : Act} {w : World} {Q : Exit → Act → World → Prop} (hgd : o.guard = none) (x y : Operand) (ho : o.op = .store 32 x y) (old : Array Value) (h18 : old.size = 18)
    (g : Nat) (hgw : g = w.heap.size) (hx : a.eval x = .pointer (some ⟨g, 0, none⟩)) (f : Int) (src : List UInt8) (u : Nat) (hs : src.length = 16) (hy : a.eval y = .agg (gcells f src u).toArray)
    (h : wpList Tryd.prog ops Q rest (a.put o.dst undef) (w.alloc (.cells (gcells f src u).toArray 32))) : wpList Tryd.prog ops Q (o :: rest) a (w.alloc (.cells old 32)) := by
  subst hgw
  refine wpList_store_row hgd 32 x y ho w.heap.size (gcells f src u).toArray hx hy 32 old (heap_alloc_new _ _) (by simp only [List.size_toArray, gcells_length hs]; exact info32) (by simp [gcells_length hs, h18]) (all_oneCell_toArray (oneCell_gcells f src u)) ?_
  rw [World.setRow_alloc_new]
  exact h

theorem run_part5 (w : World) (A : List UInt8) (i : Nat) (b : UInt8) (h : A[i]? = some b) : (part 5 (Lib.byteCells A).toArray i).run Tryd.prog w = .ok (.int .u8 (b.toNat : Int)) w := by
  have ha : (isAgg 5).run Tryd.prog w = .ok false w := by kernel_rfl
  have hc : (Lib.byteCells A).toArray[i]? = some (.int .u8 (b.toNat : Int)) := by simp [Lib.byteCells, h]
  unfold part
  simp [ha, hc]
theorem eqItems_run (d : Nat) (w : World) (A B : List UInt8) : ∀ (l : List Nat), (∀ i ∈ l, i < A.length ∧ i < B.length) →
    (Op.eqItems (d + 1) 5 1 (Lib.byteCells A).toArray (Lib.byteCells B).toArray l).run Tryd.prog w = .ok (decide (∀ i ∈ l, A[i]? = B[i]?)) w
  | [], _ => by simp [Op.eqItems]
  | i :: l, h => by
    obtain ⟨ha, hb⟩ := h i (List.mem_cons_self ..)
    have ih := eqItems_run d w A B l (fun j hj => h j (List.mem_cons_of_mem _ hj))
    have ea : A[i]? = some A[i] := List.getElem?_eq_getElem ha
    have eb : B[i]? = some B[i] := List.getElem?_eq_getElem hb
    simp only [Op.eqItems, Nat.mul_one, Sem.run_bind, run_part5 w A i _ ea, run_part5 w B i _ eb, Result.andThen_ok, run_equalIn_int w d 5 .u8 .u8 _ _ Tryd.underlying5, Sem.run_ite, ih]
    by_cases hq : A[i] = B[i]
    · simp [ea, eb, hq]
    · have hn : ¬ ((A[i].toNat : Int) = (B[i].toNat : Int)) := fun e => hq (UInt8.toNat_inj.1 (by omega))
      simp [ea, eb, hq, hn]
theorem eq25 (w : World) (A B : List UInt8) (hA : A.length = 16) (hB : B.length = 16) : (Op.equalIn 10000 25 (.agg (Lib.byteCells A).toArray) (.agg (Lib.byteCells B).toArray)).run Tryd.prog w = .ok (decide (A = B)) w := by
  obtain ⟨i0, hi, -, -, -⟩ := info_parts infoByte
  have h := run_equalIn_array (P := Tryd.prog) w 9999 (t := 25) (Lib.byteCells A).toArray (Lib.byteCells B).toArray Tryd.underlying25 hi
  rw [show Tryd.prog.cellsOf 5 = 1 by kernel_rfl, eqItems_run 9998 w A B _ (fun i hi => by have := List.mem_range.1 hi; omega)] at h
  refine h.trans ?_
  have e : (∀ i ∈ List.range 16, A[i]? = B[i]?) ↔ A = B := by
    constructor
    · intro h
      apply List.ext_getElem?
      intro i
      by_cases hi : i < 16
      · exact h i (List.mem_range.2 hi)
      · rw [List.getElem?_eq_none (by omega), List.getElem?_eq_none (by omega)]
    · intro h i _
      rw [h]
  rw [decide_eq_decide.2 e]

theorem keepA {w : World} {k : Nat} {o : Obj} (h : w.heap[k]? = some o) (x : Obj) : (w.alloc x).heap[k]? = some o :=
  (Below.heap_alloc w x k (lt_of_block h)).trans h
theorem lastA (w : World) (x : Obj) {k : Nat} (h : k = w.heap.size) : (w.alloc x).heap[k]? = some x := by subst h; exact heap_alloc_new w x

set_option maxHeartbeats 800000 in
theorem law6 (f1 f2 : Int) (s1 s2 : List UInt8) (u1 u2 : Nat) (w : World) (h1 : s1.length = 16) (h2 : s2.length = 16) (hu1 : u1 < 18446744073709551616) (hu2 : u2 < 18446744073709551616) (htab : Lib.TabBelow Tryd.prog w.heap.size w powName .u64 Lib.pow10Tab) :
    Calls Tryd.prog 6 #[.int .u8 f1, .agg (Lib.byteCells s1).toArray, .int .u64 (u1 : Int), .int .u8 f2, .agg (Lib.byteCells s2).toArray, .int .u64 (u2 : Int)] w fun e w' => e = .returned (.bool true) ∧ Below w.heap.size w w' := by
  have HT := hid htab
  have H1 := hid h1
  have H2 := hid h2
  clear htab h1 h2
  go_enter Tryd.func6, Tryd.ntmps6
  go_wp2_with (first | (refine load25 rfl _ rfl w.heap.size rfl s1 H1.out (heap_alloc2_old _ _ _) ?_) | (refine build32 rfl _ _ _ rfl f1 s1 u1 H1.out rfl rfl rfl ?_) | (refine store32 rfl _ _ rfl _ rfl (w.heap.size + 2) (by simp) rfl f1 s1 u1 H1.out rfl ?_; refine Hid.out ?_))
  refine Lib.hid ?_
  go_wp2_with (first | (refine load25 rfl _ rfl (w.heap.size + 1) rfl s2 H2.out (keepA (heap_alloc2_new _ _ _) _) ?_) | (refine build32 rfl _ _ _ rfl f2 s2 u2 H2.out rfl rfl rfl ?_) | (refine store32 rfl _ _ rfl _ rfl (w.heap.size + 3) (by simp) rfl f2 s2 u2 H2.out rfl ?_; refine Hid.out ?_))
  refine Lib.hid ?_
  have b1 := keepA (keepA (heap_alloc2_old w (.cells (Lib.byteCells s1).toArray 25) (.cells (Lib.byteCells s2).toArray 25)) (.cells (gcells f1 s1 u1).toArray 32)) (.cells (gcells f2 s2 u2).toArray 32)
  have b2 := keepA (keepA (heap_alloc2_new w (.cells (Lib.byteCells s1).toArray 25) (.cells (Lib.byteCells s2).toArray 25)) (.cells (gcells f1 s1 u1).toArray 32)) (.cells (gcells f2 s2 u2).toArray 32)
  have b3 := keepA (lastA ((w.alloc (.cells (Lib.byteCells s1).toArray 25)).alloc (.cells (Lib.byteCells s2).toArray 25)) (.cells (gcells f1 s1 u1).toArray 32) (k := w.heap.size + 2) (by simp)) (.cells (gcells f2 s2 u2).toArray 32)
  have b4 := lastA (((w.alloc (.cells (Lib.byteCells s1).toArray 25)).alloc (.cells (Lib.byteCells s2).toArray 25)).alloc (.cells (gcells f1 s1 u1).toArray 32)) (.cells (gcells f2 s2 u2).toArray 32) (k := w.heap.size + 3) (by simp)
  have hb0 : Below w.heap.size w ((((w.alloc (.cells (Lib.byteCells s1).toArray 25)).alloc (.cells (Lib.byteCells s2).toArray 25)).alloc (.cells (gcells f1 s1 u1).toArray 32)).alloc (.cells (gcells f2 s2 u2).toArray 32)) := ((((Below.refl _ _).alloc (Nat.le_refl _) _).alloc (by simp) _).alloc (by simp; omega) _).alloc (by simp; omega) _
  generalize ((((w.alloc (.cells (Lib.byteCells s1).toArray 25)).alloc (.cells (Lib.byteCells s2).toArray 25)).alloc (.cells (gcells f1 s1 u1).toArray 32)).alloc (.cells (gcells f2 s2 u2).toArray 32)) = W at b1 b2 b3 b4 hb0 ⊢
  have hT := gtidText_inj (m := u1) (n := u2) H1.out H2.out
  have c1 := string_any u1 f1 s1 W H1.out hu1 (tab_up HT.out hb0 hb0.size)
  have c2 := fun (w1 : World) (hb : Below w.heap.size w w1) => string_any u2 f2 s2 w1 H2.out hu2 (tab_up HT.out hb hb.size)
  have c3 := fun w2 : World => gtidText_any u1 s1 w2 H1.out hu1
  have q5 := fun w2 : World => eq25 w2 s1 s2 H1.out H2.out
  generalize gtidText s1 u1 = T1 at hT c1 c3
  generalize gtidText s2 u2 = T2 at hT c2
  have C1 := hid c1
  have C2 := hid c2
  have C3 := hid c3
  clear c1 c2 c3
  obtain ⟨eb, heb⟩ : ∃ b, decide (s1 = s2) = b := ⟨_, rfl⟩
  rw [heb] at q5
  obtain ⟨nb, hnb⟩ : ∃ b, ((u1 : Int) == (u2 : Int)) = b := ⟨_, rfl⟩
  have hTT : (T1 == T2) = (eb && nb) := by
    subst heb hnb
    rw [Bool.eq_iff_iff]
    simp [hT]
    omega
  have HB := hid (And.intro b1 (And.intro b2 (And.intro b3 (And.intro b4 hb0))))
  have HE := hid heb
  have HN := hid hT
  have hW1 : w.heap.size + 3 < W.heap.size := lt_of_block b4
  clear b1 b2 b3 b4 hb0 heb hT
  go_wp2_with (first | (refine load32 rfl _ rfl (w.heap.size + 2) rfl f1 s1 u1 H1.out HB.out.2.2.1 ?_) | (go_at_call 12; refine Calls.mono C1.out ?_; rintro e w1 ⟨rfl, hb1⟩; refine Hid.out ?_))
  refine Lib.hid ?_
  have B1 := hid (And.intro ((hb1.block _ (by omega)).trans HB.out.1) (And.intro ((hb1.block _ (by omega)).trans HB.out.2.1) (And.intro ((hb1.block _ (by omega)).trans HB.out.2.2.2.1) (HB.out.2.2.2.2.trans (hb1.mono HB.out.2.2.2.2.size)))))
  have hW2 : w.heap.size + 3 < w1.heap.size := by have := hb1.size; omega
  clear hb1
  go_wp2_with (first | (refine load32 rfl _ rfl (w.heap.size + 3) rfl f2 s2 u2 H2.out B1.out.2.2.1 ?_) | (go_at_call 12; refine Calls.mono (C2.out w1 B1.out.2.2.2) ?_; rintro e w2 ⟨rfl, hb2⟩; refine Hid.out ?_))
  refine Lib.hid ?_
  have B2 := hid (And.intro ((hb2.block _ (by omega)).trans B1.out.1) (And.intro ((hb2.block _ (by omega)).trans B1.out.2.1) (B1.out.2.2.2.trans (hb2.mono B1.out.2.2.2.size))))
  clear hb2
  cases eb <;> cases nb
  all_goals
    simp only [Bool.and_false, Bool.and_true] at hTT
    go_wp2_with (first | (refine load25 rfl _ rfl w.heap.size rfl s1 H1.out B2.out.1 ?_) | (refine load25 rfl _ rfl (w.heap.size + 1) rfl s2 H2.out B2.out.2.1 ?_) | (go_at_call 11; refine Calls.mono (C3.out w2) ?_; rintro e w3 ⟨rfl, hb3⟩))
    go_ret
    exact ⟨rfl, B2.out.2.2.trans (hb3.mono B2.out.2.2.size)⟩
end Go.Proofs.Qxb6614863aDoor
