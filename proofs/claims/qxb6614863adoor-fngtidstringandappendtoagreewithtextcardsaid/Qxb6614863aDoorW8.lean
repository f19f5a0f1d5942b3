import Derived.Test.Qxb6614863aDoorW7
import Derived.Laws.CopyOwn
namespace Go.Proofs.Qxb6614863aDoor
open Go.RowKit Go.Lib

theorem size5 : (Tryd.prog.info? 5).map (·.size) = some 1 := by kernel_rfl
theorem eqNil (w : World) (a : Option Addr) (l c : Nat) : (binOp .eql 27 (.slice a l c) (.slice none 0 0)).run Tryd.prog w = .ok (.bool a.isNone) w := Lib.run_eql_slice_nil w 27 5 a l c 0 0 Tryd.underlying27

theorem clone_nil (w : World) : Calls Tryd.prog 10 #[.slice none 0 0] w fun e w' => e = .returned (.slice none 0 0) ∧ w = w' := by
  have hq := fun w => eqNil w none 0 0
  go_enter Tryd.func10, Tryd.ntmps10
  go_wp2
  go_ret
  exact ⟨rfl, rfl⟩

theorem made_block {w w1 : World} {n : Nat} {xs : List Value} (h : w1.ownsRow w.heap.size 5 1 (.slice (some ⟨w.heap.size, 0, none⟩) n n) n xs) : ∃ cur : Array Value, w1.heap[w.heap.size]? = some (.cells cur 5 (0, 0)) ∧ cur.size = n := by
  rcases h.2 with ⟨h0, _⟩ | ⟨g, cap, cur, hv, _, hh, _, _, hs, _⟩
  · cases h0
  · cases hv
    exact ⟨cur, hh, by simpa using hs⟩
theorem addr_block (a : Addr) (j : Nat) : (a.add j).block = a.block := by unfold Addr.add; split <;> rfl
theorem oneCell_bytes (l : List UInt8) : ∀ v ∈ Lib.byteCells l, v.oneCell' = true := by
  intro v hv
  simp only [Lib.byteCells, List.mem_map] at hv
  obtain ⟨b, _, rfl⟩ := hv
  rfl

set_option maxHeartbeats 400000 in
theorem clone_some (ad : Addr) (cap : Nat) (l : List UInt8) (w : World) (hl : l.length ≤ 1048576) (hc : ∀ j v, (Lib.byteCells l)[j]? = some v → w.cell? (ad.add j) = some v) (hlt : 0 < l.length → ad.block < w.heap.size) :
    Calls Tryd.prog 10 #[.slice (some ad) l.length cap] w fun e w' => ∃ v', e = .returned v' ∧ w'.ownsRow w.heap.size 5 1 v' l.length (Lib.byteCells l) ∧ Below w.heap.size w w' := by
  obtain ⟨i0, hi, hz0, hz1, hz2⟩ := info_parts infoByte
  have hq := fun w => eqNil w (some ad) l.length cap
  have HC := hid hc
  have hbl : (Lib.byteCells l).length = l.length := by simp [Lib.byteCells]
  have HL := hid hbl
  clear hc hbl
  generalize hn : l.length = n at *
  have HN := hid hn
  clear hn
  go_enter Tryd.func10, Tryd.ntmps10
  go_wp2_with (at_make; refine wpList_make_full _ rfl _ _ 27 rfl w.heap.size 5 i0 (.int .u8 0) 1 Tryd.underlying27 hi hz0 hz1 .i64 .i64 _ _ n rfl rfl rfl rfl (by rw [hz2]; omega) (by unfold maxLen; omega) (Nat.le_refl _) ?_; intro w1 hown1 hgrow1; refine Hid.out ?_)
  refine Lib.hid ?_
  obtain ⟨cur, hh, hcz⟩ := made_block hown1
  have hb1 : Below w.heap.size w w1 := (Below.refl _ _).grown hgrow1 (Nat.le_refl _) (fun k hk => by cases hk)
  have HH := hid hh
  have HB := hid hb1
  clear hown1 hgrow1 hh hb1
  have F1 := hid (show w1.heap[w.heap.size]? = some (.cells cur.toList.toArray 5 (0, 0)) by simpa using HH.out)
  have F2 := hid (show (Lib.byteCells l).length = Nat.min n n by rw [HL.out]; exact (Nat.min_self _).symm)
  have F3 := hid (show ∀ j v, (Lib.byteCells l)[j]? = some v → w1.cell? (ad.add j) = some v from fun j v hj => (HB.out.cell (p := ad.add j) (by rw [addr_block]; exact hlt (by have := (List.getElem?_eq_some_iff.1 hj).1; rw [HL.out] at this; omega))).trans (HC.out j v hj))
  have F4 := hid (show 0 + (Lib.byteCells l).length ≤ cur.toList.length by rw [HL.out]; simp [hcz])
  go_wp2_with (refine wpList_copy_splice rfl _ _ 27 27 rfl 5 Tryd.underlying27 size5 _ _ _ _ _ _ rfl rfl w.heap.size 0 cur.toList 5 F1.out (Lib.byteCells l) F2.out (fun _ => ⟨rfl, ad, rfl, F3.out⟩) F4.out (oneCell_bytes l) w.heap.size w HB.out (Nat.le_refl _) ?_; intro w2 hh2 hb2; refine Hid.out ?_)
  refine Lib.hid ?_
  have HX := hid (And.intro hh2.out hb2)
  clear hh2 hb2
  go_wp2
  go_ret
  refine ⟨_, rfl, ⟨by rw [HL.out]; simp, Or.inr ⟨w.heap.size, n, _, rfl, Nat.le_refl _, HX.out.1, Nat.le_refl _, by unfold maxLen; omega, ?_, ?_⟩⟩, HX.out.2⟩
  · simp [splice, HL.out, hcz]
  · simp [splice, HL.out]

/-- a slice of bytes that came in -/
structure Came (w : World) (a : Option Addr) (cap : Nat) (l : List UInt8) : Prop where
  nil : a = none → l = [] ∧ cap = 0
  cells : ∀ ad, a = some ad → ∀ j v, (Lib.byteCells l)[j]? = some v → w.cell? (ad.add j) = some v

theorem lt_of_cells {w : World} {ad : Addr} {l : List UInt8} (h : ∀ j v, (Lib.byteCells l)[j]? = some v → w.cell? (ad.add j) = some v) : 0 < l.length → ad.block < w.heap.size := by
  intro h0
  have := h 0 (.int .u8 (l[0].toNat : Int)) (by simp [Lib.byteCells, List.getElem?_eq_getElem h0])
  have := block_lt_of_cell this
  rwa [addr_block] at this

theorem clone_came (a : Option Addr) (cap : Nat) (l : List UInt8) (w : World) (hl : l.length ≤ 1048576) (h : Came w a cap l) :
    Calls Tryd.prog 10 #[.slice a l.length cap] w fun e w' => ∃ v', e = .returned v' ∧ w'.ownsRow w.heap.size 5 1 v' l.length (Lib.byteCells l) ∧ Below w.heap.size w w' := by
  cases a with
  | none =>
    obtain ⟨rfl, rfl⟩ := h.nil rfl
    refine (clone_nil w).mono ?_
    rintro e w' ⟨rfl, rfl⟩
    exact ⟨_, rfl, World.ownsRow_nil _ _ _ _, Below.refl _ _⟩
  | some ad => exact clone_some ad cap l w hl (h.cells ad rfl) (lt_of_cells (h.cells ad rfl))

theorem clone_own (B : Nat) (v : Value) (l : List UInt8) (w : World) (hl : l.length ≤ 1048576) (h : w.ownsRow B 5 1 v l.length (Lib.byteCells l)) :
    Calls Tryd.prog 10 #[v] w fun e w' => ∃ v', e = .returned v' ∧ w'.ownsRow w.heap.size 5 1 v' l.length (Lib.byteCells l) ∧ Below w.heap.size w w' := by
  rcases h.2 with ⟨rfl, h0⟩ | ⟨g, cap, cur, rfl, -, -, -, -, -, -⟩
  · obtain rfl := List.length_eq_zero_iff.1 h0
    exact clone_came none 0 [] w hl ⟨fun _ => ⟨rfl, rfl⟩, fun ad e => (by cases e)⟩
  · exact clone_came (some ⟨g, 0, none⟩) cap l w hl ⟨fun e => (by cases e), fun ad e => (by cases e; exact h.cells rfl)⟩

/-- 'string(b)' of a row that is owned -/
theorem conv_own {B : Nat} {v : Value} {l : List UInt8} {w : World} (h : w.ownsRow B 5 1 v l.length (Lib.byteCells l)) : (convert 27 9 v).run Tryd.prog w = .ok (.string ⟨l.toArray⟩) w := by
  rcases h.2 with ⟨rfl, h0⟩ | ⟨g, cap, cur, rfl, -, -, -, -, -, -⟩
  · obtain rfl := List.length_eq_zero_iff.1 h0
    rw [run_convert_bytes_string w 27 9 5 none 0 0 Tryd.underlying27 Tryd.underlying5 Tryd.underlying9]
    kernel_rfl
  · exact run_convert_bytes_back (P := Tryd.prog) w 27 9 5 ⟨g, 0, none⟩ cap l Tryd.underlying27 Tryd.underlying5 Tryd.underlying9 (fun j hj => h.cells (g := g) rfl j _ (by simp [Lib.byteCells, hj]))
end Go.Proofs.Qxb6614863aDoor
