import Derived.Test.Qxb6608607aPut
namespace Go.Proofs.Qxb6608607a
open Go.RowKit

theorem own_below {w w' : World} {B e sz n : Nat} {v : Value} {xs : List Value} (h : w.ownsRow B e sz v n xs) (hb : Below w.heap.size w w') : w'.ownsRow B e sz v n xs := by
  obtain ⟨h1, h2⟩ := h
  refine ⟨h1, ?_⟩
  rcases h2 with h2 | ⟨g, cap, cur, hv, hg, hh, r⟩
  · exact Or.inl h2
  · exact Or.inr ⟨g, cap, cur, hv, hg, (hb.block g (lt_of_block hh)).trans hh, r⟩

theorem of_drew {B : Nat} {w w' : World} (h : Below B w.drew w') : Below B w w' := ⟨h.os, h.tape, h.output, h.size, h.block⟩
theorem of_drewN {B n : Nat} {w w' : World} (h : Below B (w.drewN n) w') : Below B w w' := ⟨h.os, h.tape, h.output, h.size, h.block⟩

set_option maxHeartbeats 1600000 in
theorem with8 (a : Option Addr) (cap : Nat) (xs : List Int) (w : World) (h : At w a xs) (hnil : a = none → xs = [] ∧ cap = 0) (hc : xs.length ≤ cap) (hl : xs.length ≤ 262144) :
    Calls Try.prog 8 #[.slice a xs.length cap] w fun e w' => ∃ v', e = .returned v' ∧ w'.ownsRow w.heap.size 5 1 v' (xs.length + 4) (bts (xs ++ le (adler xs))) ∧ v' ≠ .slice none 0 0 ∧ Below w.heap.size w w' := by
  have C1 := Lib.hid (show Calls Try.prog 23 #[.slice a xs.length cap] w.drew fun e w' => ∃ v', e = .returned v' ∧ w'.ownsRow w.heap.size 5 1 v' xs.length (bts xs) ∧ Below w.heap.size w w' from (clone23 a cap xs w.drew h hnil (by omega)).mono fun _ _ ⟨v', he, ho, hb⟩ => ⟨v', he, ho, of_drew hb⟩)
  have HA := Lib.hid h
  have HC := Lib.hid (show ∀ w1, Below w.heap.size w w1 → Calls Try.prog 24 #[.slice a xs.length cap] w1 fun e w' => e = .returned (.int .u32 (adler xs)) ∧ ∃ n, w' = w1.drewN n from fun w1 hb => checksum24 a cap xs w1 (h.below hb) hc)
  have HD := Lib.hid (show ∀ (w1 : World) (n : Nat) v, w.heap.size ≤ w1.heap.size → w1.ownsRow w.heap.size 5 1 v xs.length (bts xs) → Calls Try.prog 22 #[.agg #[], v, .int .u32 (adler xs)] (w1.drewN n) fun e w' => ∃ v', e = .returned v' ∧ w'.ownsRow w.heap.size 5 1 v' (xs.length + 4) (bts (xs ++ le (adler xs))) ∧ v' ≠ .slice none 0 0 ∧ Below w.heap.size (w1.drewN n) w' from fun w1 n v hle ho => app22 v xs.length w.heap.size xs (adler xs) (w1.drewN n) ho hle (by omega))
  clear h hnil
  generalize xs.length = n at *
  go_enter Try.func8, Try.ntmps8
  go_wp2
  go_region_held3 (fun _ => True) (trivial) ((first | (go_at_call 23; refine Calls.mono C1.out ?_; rintro e w1 ⟨v1, rfl, hown1, hb1⟩; have C2 := Lib.hid (HC.out w1 hb1); have H1 := Lib.hid (And.intro hown1 hb1); clear hown1 hb1) | (go_at_call 24; refine Calls.mono C2.out ?_; rintro e w2 ⟨rfl, m, rfl⟩; have C3 := Lib.hid (HD.out w1 m v1 H1.out.2.size H1.out.1)) | (go_at_call 22; refine Calls.mono C3.out ?_; rintro e w3 ⟨v3, rfl, hown3, hne3, hb3⟩)))
  have hbw : Below w.heap.size w w3 := H1.out.2.trans (of_drewN hb3)
  have HX := Lib.hid (And.intro hown3 (And.intro hne3 hbw))
  clear hown3 hne3 hbw hb3 C1 C2 C3 HC HD H1 HA
  go_wp2
  go_ret
  exact ⟨v3, rfl, HX.out⟩

set_option maxHeartbeats 1600000 in
theorem put12 (g cap n B off m : Nat) (ys : List Int) (w : World) (hown : w.ownsRow B 5 1 (.slice (some ⟨g, 0, none⟩) n cap) n (bts ys)) (ho : off + m + 4 ≤ n) (hn : n ≤ 1048576) (hB : B ≤ w.heap.size) :
    Calls Try.prog 12 #[.slice (some ⟨g, 0, none⟩) n cap, .int .i64 (off : Int), .int .i64 (m : Int)] w fun e w' => e = .returned (.tuple #[]) ∧ w'.ownsRow B 5 1 (.slice (some ⟨g, 0, none⟩) n cap) n (bts (put4 ys (off + m) (adler ((ys.drop off).take m)))) ∧ Below B w w' := by
  have hlen : ys.length = n := by have := hown.1; rw [bts_length] at this; omega
  have hnc : n ≤ cap := by
    rcases hown.2 with ⟨hv, _⟩ | ⟨g', cap', cur, hv, _, _, hn', _⟩
    · cases hv
    · cases hv; exact hn'
  have hat : At w (some ⟨g, off, none⟩) ((ys.drop off).take m) := by
    have := ((own_at hown).drop off).take m
    rwa [Nat.zero_add] at this
  have hxl : ((ys.drop off).take m).length = m := by rw [List.length_take, List.length_drop]; omega
  generalize (ys.drop off).take m = xs at *
  have C1 := Lib.hid (checksum24 (some ⟨g, off, none⟩) (cap - off) xs w.drew hat (by omega))
  rw [hxl] at C1
  have C2 := Lib.hid (show ∀ k, Calls Try.prog 25 #[.agg #[], .slice (some ⟨g, off + m, none⟩) (n - (off + m)) (cap - (off + m)), .int .u32 (adler xs)] (w.drewN k) fun e w' => e = .returned (.tuple #[]) ∧ w'.ownsRow B 5 1 (.slice (some ⟨g, 0, none⟩) n cap) n (bts (put4 ys (off + m) (adler xs))) ∧ Below B w w' from fun k => (put25 g (off + m) n cap B ys (adler xs) (w.drewN k) hown (by omega) hB).mono fun _ _ ⟨h1, h2, h3⟩ => ⟨h1, h2, of_drewN h3⟩)
  clear hown hat hxl hlen
  have hom : (off : Int) + (m : Int) = ((off + m : Nat) : Int) := by omega
  generalize off + m = p at *
  have hwr : IntKind.i64.wrap ((off : Int) + (m : Int)) = (p : Int) := by rw [hom]; simp [IntKind.wrap, IntKind.signed, IntKind.bits]; omega
  have hp0 : (0 : Int) ≤ (p : Int) := by omega
  have ho0 : (0 : Int) ≤ (off : Int) := by omega
  have hpi : (p : Int) ≤ (n : Int) := by omega
  have hpc : (p : Int) ≤ (cap : Int) := by omega
  have hop : (off : Int) ≤ (p : Int) := by omega
  have hpm : p - off = m := by omega
  have hcp : ¬ cap = p := by omega
  have hco : ¬ cap = off := by omega
  clear hom
  go_enter Try.func12, Try.ntmps12
  go_wp2
  go_region_held3 (fun _ => True) (trivial) ((first | (go_at_call 24; refine Calls.mono C1.out ?_; rintro e w2 ⟨rfl, k, rfl⟩) | (go_at_call 25; refine Calls.mono (C2.out _) ?_; rintro e w3 ⟨rfl, hown3, hb3⟩)))
  have HX := Lib.hid (And.intro hown3 hb3)
  clear hown3 hb3 C1 C2
  show bodyPost Try.prog Try.f12 _ _ _ _
  go_returns
  exact ⟨rfl, HX.out⟩
end Go.Proofs.Qxb6608607a
