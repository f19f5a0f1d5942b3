import Derived.Test.Qxb6615602aProg
import Derived.Test.Qxb6615602aPlain
import Derived.WalkKit
import Derived.WalkSpells
import Derived.WalkLawsBesides
import Derived.Lib.Hide
import Derived.Lib.OthersKept
import Derived.Laws.AppendOwnNone
import Derived.Deep.MidRow
import Derived.Deep.WholeRow
namespace Go.Proofs.Qxb6615602a
open Go.RowKit

/-- an attribute's two cells -/
def attr (s : ByteArray) : List Value := [.slice none 0 0, .iface 9 (.string s)]
def attrs : List ByteArray → List Value
  | [] => []
  | s :: ss => attr s ++ attrs ss
theorem attrs_length (ss : List ByteArray) : (attrs ss).length = ss.length * 2 := by
  induction ss with
  | nil => rfl
  | cons s ss ih => simp only [attrs, attr, List.length_append, List.length_cons, List.length_nil, ih]; omega
theorem attrs_append (a b : List ByteArray) : attrs (a ++ b) = attrs a ++ attrs b := by
  induction a with
  | nil => rfl
  | cons s ss ih => simp [attrs, ih]
theorem attrs_take (ss : List ByteArray) (k : Nat) : (attrs ss).take (k * 2) = attrs (ss.take k) := by
  induction ss generalizing k with
  | nil => simp [attrs]
  | cons s ss ih =>
    cases k with
    | zero => simp [attrs]
    | succ k =>
      have : (k + 1) * 2 = k * 2 + 1 + 1 := by omega
      simp only [attrs, attr, List.cons_append, List.nil_append, this, List.take_succ_cons, ih]
theorem attrs_even {ss : List ByteArray} {j : Nat} (h : j < ss.length) : (attrs ss)[j * 2]? = some (.slice none 0 0) := by
  induction ss generalizing j with
  | nil => simp at h
  | cons s ss ih =>
    cases j with
    | zero => simp [attrs, attr]
    | succ j =>
      have : (j + 1) * 2 = j * 2 + 1 + 1 := by omega
      simp only [attrs, attr, List.cons_append, List.nil_append, this, List.getElem?_cons_succ]
      exact ih (by simpa using h)
theorem attrs_odd {ss : List ByteArray} {j : Nat} (h : j < ss.length) : (attrs ss)[j * 2 + 1]? = some (.iface 9 (.string ss[j])) := by
  induction ss generalizing j with
  | nil => simp at h
  | cons s ss ih =>
    cases j with
    | zero => simp [attrs, attr]
    | succ j =>
      have : (j + 1) * 2 + 1 = j * 2 + 1 + 1 + 1 := by omega
      simp only [attrs, attr, List.cons_append, List.nil_append, this, List.getElem?_cons_succ, List.getElem_cons_succ]
      exact ih (by simpa using h)
theorem attrs_one (ss : List ByteArray) : ∀ v ∈ attrs ss, v.oneCell' = true := by
  induction ss with
  | nil => intro v h; cases h
  | cons s ss ih =>
    intro v h
    simp only [attrs, attr, List.cons_append, List.nil_append, List.mem_cons] at h
    rcases h with rfl | rfl | h
    · rfl
    · rfl
    · exact ih v h

/-! ### rows that are owned, kept -/
theorem own_below {w w' : World} {B e sz n : Nat} {v : Value} {xs : List Value} (h : w.ownsRow B e sz v n xs) (hb : Below w.heap.size w w') : w'.ownsRow B e sz v n xs := by
  obtain ⟨h1, h2⟩ := h
  refine ⟨h1, ?_⟩
  rcases h2 with h2 | ⟨g, cap, cur, hv, hg, hh, r⟩
  · exact Or.inl h2
  · exact Or.inr ⟨g, cap, cur, hv, hg, (hb.block g (lt_of_block hh)).trans hh, r⟩
theorem own_base {w : World} {B B' e sz n : Nat} {v : Value} {xs : List Value} (h : w.ownsRow B e sz v n xs) (hB : B' ≤ B) : w.ownsRow B' e sz v n xs := by
  obtain ⟨h1, h2⟩ := h
  refine ⟨h1, ?_⟩
  rcases h2 with h2 | ⟨g, cap, cur, hv, hg, r⟩
  · exact Or.inl h2
  · exact Or.inr ⟨g, cap, cur, hv, by omega, r⟩
theorem own_others {w w' : World} {B e e' sz n : Nat} {v : Value} {xs : List Value} (h : w.ownsRow B e sz v n xs) (hk : Lib.OthersKept e' none w w') (hne : e ≠ e') : w'.ownsRow B e sz v n xs := by
  obtain ⟨h1, h2⟩ := h
  refine ⟨h1, ?_⟩
  rcases h2 with h2 | ⟨g, cap, cur, hv, hg, hh, r⟩
  · exact Or.inl h2
  · exact Or.inr ⟨g, cap, cur, hv, hg, hk g _ hh (by simp) (fun c fz e2 => by cases e2; exact hne rfl), r⟩
theorem own_kind {w : World} {B e sz n : Nat} {v : Value} {xs : List Value} (h : w.ownsRow B e sz v n xs) : ∀ g, v.ownBlock = some g → ∃ c fz, w.heap[g]? = some (.cells c e fz) := by
  intro g hg
  rcases h.2 with ⟨rfl, _⟩ | ⟨g', cap, cur, rfl, _, hgg, _⟩
  · simp [Value.ownBlock] at hg
  · simp [Value.ownBlock] at hg
    subst hg
    exact ⟨cur, _, hgg⟩
theorem addr_add (b o j : Nat) : (⟨b, o, none⟩ : Addr).add j = ⟨b, o + j, none⟩ := by unfold Addr.add; split <;> simp_all

/-- a set of attributes, in a row of its own, not nil -/
def SetRow (w : World) (v : Value) (ss : List ByteArray) : Prop := w.ownsRow 0 45 2 v ss.length (attrs ss) ∧ v ≠ .slice none 0 0
theorem SetRow.below {w w' : World} {v : Value} {ss : List ByteArray} (h : SetRow w v ss) (hb : Below w.heap.size w w') : SetRow w' v ss := ⟨own_below h.1 hb, h.2⟩
theorem SetRow.others {w w' : World} {v : Value} {ss : List ByteArray} (h : SetRow w v ss) (hk : Lib.OthersKept 41 none w w') : SetRow w' v ss := ⟨own_others h.1 hk (by decide), h.2⟩
theorem SetRow.alloc {w : World} {v : Value} {ss : List ByteArray} (h : SetRow w v ss) (o : Obj) : SetRow (w.alloc o) v ss := ⟨h.1.alloc o, h.2⟩
theorem SetRow.form {w : World} {v : Value} {ss : List ByteArray} (h : SetRow w v ss) : ∃ g cap, v = .slice (some ⟨g, 0, none⟩) ss.length cap ∧ ss.length ≤ cap ∧ cap ≤ maxLen ∧ g < w.heap.size := by
  rcases h.1.2 with ⟨hv, _⟩ | ⟨g, cap, cur, hv, -, hh, hn, hm, -, -⟩
  · exact absurd hv h.2
  · exact ⟨g, cap, hv, hn, hm, lt_of_block hh⟩
/-- a set, cut short -/
theorem SetRow.cutTo {w : World} {g cap m : Nat} {ss : List ByteArray} (h : SetRow w (.slice (some ⟨g, 0, none⟩) ss.length cap) ss) (hm : m ≤ ss.length) : SetRow w (.slice (some ⟨g, 0, none⟩) m cap) (ss.take m) := by
  have hl : (ss.take m).length = m := by simp; omega
  refine ⟨⟨by rw [attrs_length], ?_⟩, by simp⟩
  rcases h.1.2 with ⟨hv, _⟩ | ⟨g', cap', cur, hv, hg, hh, hn, hx, hs, htk⟩
  · cases hv
  · cases hv
    refine Or.inr ⟨g, cap, cur, by rw [hl], hg, hh, by omega, hx, hs, ?_⟩
    rw [hl, ← attrs_take, ← htk, List.take_take]
    congr 1
    omega

theorem info45 : (Try.prog.info? 45).map (fun i => (i.zero, i.size, i.bytes)) = some (some (.agg #[.slice none 0 0, .nilIface]), 2, 40) := by kernel_rfl
theorem info41 : (Try.prog.info? 41).map (fun i => (i.zero, i.size, i.bytes)) = some (some (.slice none 0 0), 1, 24) := by kernel_rfl
theorem info32 : (Try.prog.info? 32).map (fun i => (i.zero, i.size, i.bytes)) = some (some (.slice none 0 0), 1, 24) := by kernel_rfl
theorem info9 : (Try.prog.info? 9).map (fun i => (i.zero, i.size, i.bytes)) = some (some (.string ⟨#[]⟩), 1, 16) := by kernel_rfl
theorem eqNil41 (w : World) (a : Option Addr) (l c : Nat) : (binOp .eql 41 (.slice a l c) (.slice none 0 0)).run Try.prog w = .ok (.bool a.isNone) w := Lib.run_eql_slice_nil w 41 45 a l c 0 0 Try.underlying41

set_option maxHeartbeats 400000 in
/-- slices.Clone of a set -/
theorem clone_any (v : Value) (ss : List ByteArray) (w : World) (h : SetRow w v ss) (hl : ss.length ≤ 1048576) :
    Calls Try.prog 19 #[v] w fun e w' => ∃ v', e = .returned v' ∧ w'.ownsRow w.heap.size 45 2 v' ss.length (attrs ss) ∧ v' ≠ .slice none 0 0 ∧ Below w.heap.size w w' := by
  obtain ⟨i0, hi, hz0, hz1, hz2⟩ := info_parts info45
  obtain ⟨h, hne⟩ := h
  rcases h.2 with ⟨rfl, h0⟩ | ⟨g, cap, cur, rfl, -, hh, hn, hm, hsz, htk⟩
  · exact absurd rfl hne
  · clear hne
    have hq := fun w => eqNil41 w (some ⟨g, 0, none⟩) ss.length cap
    have hc := h.cells (g := g) rfl
    have HC := Lib.hid hc
    clear hc htk
    go_enter Try.func19, Try.ntmps19
    have hgw := lt_of_block hh
    have F1 := Lib.hid (show ∀ j u, (attrs ss)[j]? = some u → (w.alloc (.cells #[] 45)).cell? ((⟨g, 0, none⟩ : Addr).add j) = some u from fun j u hj => by
      rw [addr_add] at *
      have := HC.out j u hj
      rw [addr_add] at this
      rw [World.cell?_alloc_past (hn := hgw)]
      exact this)
    have F2 := Lib.hid (World.ownsRow_made (base := w.heap.size) (e := 45) (size := 2) w #[] 0 (Nat.le_refl _) (by decide) (by simp))
    have F3 := Lib.hid (attrs_length ss)
    generalize hn0 : ss.length = n at *
    have HN := Lib.hid hn0
    clear hn0
    go_wp2_with (at_builtin; refine wpList_append_own _ rfl _ _ 41 rfl w.heap.size 45 i0 (.agg #[.slice none 0 0, .nilIface]) 2 40 Try.underlying41 hi hz0 hz1 hz2 rfl (by decide) _ _ _ rfl F2.out ⟨g, 0, none⟩ n cap (attrs ss) rfl F3.out F1.out (attrs_one ss) (by unfold maxLen; omega) (by omega) (by simp) ?_; intro v1 w1 hown1 hgrow1 hnn1; refine Hid.out ?_)
    refine Lib.hid ?_
    have hb1 : Below w.heap.size w w1 := ((Below.refl _ _).alloc (Nat.le_refl _) _).grown hgrow1 (by simp) (fun k hk => by cases hk; exact Nat.le_refl _)
    rw [Nat.zero_add, List.nil_append] at hown1
    have hne1 : v1 ≠ .slice none 0 0 := fun e => by have := (hnn1.1 e).1; cases this
    have HX := Lib.hid (And.intro hown1 (And.intro hne1 hb1))
    clear hne1
    clear hown1 hb1 hgrow1 hnn1
    go_wp2
    go_ret
    exact ⟨_, rfl, HX.out⟩
end Go.Proofs.Qxb6615602a
