import Derived.Test.Qxb6615602aLast
namespace Go.Proofs.Qxb6615602a
open Go.RowKit

/-- a slice of strings, read -/
def StrRow (w : World) (v : Value) (ss : List ByteArray) : Prop :=
  ∃ a cap, v = .slice a ss.length cap ∧ ∀ (j : Nat) s, ss[j]? = some s → ∃ b o, a = some ⟨b, o, none⟩ ∧ w.cell? ⟨b, o + j, none⟩ = some (.string s)
/-- a slice of slices of strings, read -/
def Vals (w : World) (v : Value) (xss : List (List ByteArray)) : Prop :=
  ∃ a cap, v = .slice a xss.length cap ∧ ∀ (j : Nat) ss, xss[j]? = some ss → ∃ b o u, a = some ⟨b, o, none⟩ ∧ w.cell? ⟨b, o + j, none⟩ = some u ∧ StrRow w u ss
theorem StrRow.below {w w' : World} {v : Value} {ss : List ByteArray} (h : StrRow w v ss) (hb : Below w.heap.size w w') : StrRow w' v ss := by
  obtain ⟨a, cap, hv, hc⟩ := h
  refine ⟨a, cap, hv, fun j s hj => ?_⟩
  obtain ⟨b, o, ha, hcell⟩ := hc j s hj
  exact ⟨b, o, ha, (hb.cell (p := ⟨b, o + j, none⟩) (block_lt_of_cell hcell)).trans hcell⟩
theorem Vals.below {w w' : World} {v : Value} {xss : List (List ByteArray)} (h : Vals w v xss) (hb : Below w.heap.size w w') : Vals w' v xss := by
  obtain ⟨a, cap, hv, hc⟩ := h
  refine ⟨a, cap, hv, fun j s hj => ?_⟩
  obtain ⟨b, o, u, ha, hcell, hs⟩ := hc j s hj
  exact ⟨b, o, u, ha, (hb.cell (p := ⟨b, o + j, none⟩) (block_lt_of_cell hcell)).trans hcell, hs.below hb⟩

theorem attrs_snoc {ss : List ByteArray} {j : Nat} {s : ByteArray} (h : ss[j]? = some s) : attrs (ss.take j) ++ [.slice none 0 0, .iface 9 (.string s)] = attrs (ss.take (j + 1)) := by
  have hj : j < ss.length := (List.getElem?_eq_some_iff.1 h).1
  rw [List.take_succ_eq_append_getElem hj, attrs_append, (List.getElem?_eq_some_iff.1 h).2]
  rfl
theorem cellTwo (w : World) (u v : Value) (t : TypeId) : ∀ j x, [u, v][j]? = some x → (w.alloc (.cells #[u, v] t)).cell? ((⟨w.heap.size, 0, none⟩ : Addr).add j) = some x := by
  intro j x hj
  match j, hj with
  | 0, hj => simp at hj; subst hj; simp [Addr.add]
  | 1, hj => simp at hj; subst hj; simp [Addr.add]

theorem outer_form {w : World} {B n : Nat} {v : Value} {zs : List (Option Addr × Nat × Nat)} {xss : List (List ByteArray)} (h : w.ownsRow B 41 1 v zs.length (zs.map encS)) (hne : v ≠ .slice none 0 0) (hs : SetRows w zs (xss.take n)) (hn : xss.length = n) :
    ∃ g c, v = .slice (some ⟨g, 0, none⟩) zs.length c ∧ SetRows w zs xss ∧ w.ownsRow B 41 1 (.slice (some ⟨g, 0, none⟩) zs.length c) zs.length (zs.map encS) := by
  rw [List.take_of_length_le (by omega)] at hs
  rcases h.2 with ⟨hv, _⟩ | ⟨g, cap, cur, hv, -, -, -, -, -, -⟩
  · exact absurd hv hne
  · exact ⟨g, cap, hv, hs, hv ▸ h⟩

/-- strings' cells -/
def strs (ss : List ByteArray) : List Value := ss.map Value.string
theorem strs_snoc {ss : List ByteArray} {j : Nat} {s : ByteArray} (h : ss[j]? = some s) : strs (ss.take j) ++ [.string s] = strs (ss.take (j + 1)) := by
  have hj : j < ss.length := (List.getElem?_eq_some_iff.1 h).1
  rw [List.take_succ_eq_append_getElem hj, (List.getElem?_eq_some_iff.1 h).2]
  simp [strs]
/-- the values zs lead to the rows of strings yss -/
def StrSets (w : World) (zs : List (Option Addr × Nat × Nat)) (yss : List (List ByteArray)) : Prop :=
  zs.length = yss.length ∧ ∀ (j : Nat) z ys, zs[j]? = some z → yss[j]? = some ys → w.ownsRow 0 9 1 (encS z) ys.length (strs ys)
theorem StrSets.below {w w' : World} {zs : List (Option Addr × Nat × Nat)} {yss : List (List ByteArray)} (h : StrSets w zs yss) (hb : Below w.heap.size w w') : StrSets w' zs yss := ⟨h.1, fun j z ys h1 h2 => own_below (h.2 j z ys h1 h2) hb⟩
theorem StrSets.others {w w' : World} {zs : List (Option Addr × Nat × Nat)} {yss : List (List ByteArray)} (h : StrSets w zs yss) (hk : Lib.OthersKept 32 none w w') : StrSets w' zs yss := ⟨h.1, fun j z ys h1 h2 => own_others (h.2 j z ys h1 h2) hk (by decide)⟩
theorem StrSets.push {w : World} {zs : List (Option Addr × Nat × Nat)} {yss : List (List ByteArray)} (h : StrSets w zs yss) {z : Option Addr × Nat × Nat} {ys : List ByteArray} (hz : w.ownsRow 0 9 1 (encS z) ys.length (strs ys)) : StrSets w (zs ++ [z]) (yss ++ [ys]) := by
  refine ⟨by simp [h.1], fun j z' ys' h1 h2 => ?_⟩
  by_cases hj : j < zs.length
  · rw [List.getElem?_append_left hj] at h1
    rw [List.getElem?_append_left (by rw [← h.1]; exact hj)] at h2
    exact h.2 j z' ys' h1 h2
  · rw [List.getElem?_append_right (by omega)] at h1
    rw [List.getElem?_append_right (by rw [← h.1]; omega)] at h2
    have hj0 : j - zs.length = 0 := by
      have := (List.getElem?_eq_some_iff.1 h1).1
      simp at this
      omega
    rw [hj0] at h1
    rw [← h.1, hj0] at h2
    simp at h1 h2
    subst h1; subst h2
    exact hz
theorem own_enc {w : World} {B e sz n : Nat} {v : Value} {xs : List Value} (h : w.ownsRow B e sz v n xs) : ∃ z, v = encS z := by
  rcases h.2 with ⟨hv, _⟩ | ⟨g, cap, cur, hv, _⟩
  · exact ⟨(none, 0, 0), hv⟩
  · exact ⟨(some ⟨g, 0, none⟩, n, cap), hv⟩
theorem set_at {w : World} {b c L k : Nat} {ss : List ByteArray} (h : SetRow w (.slice (some ⟨b, 0, none⟩) L c) ss) (hL : ss.length = L) (hk : k < L) :
    ∃ s, ss[k]? = some s ∧ w.cell? ⟨b, k * 2, none⟩ = some (.slice none 0 0) ∧ w.cell? ⟨b, k * 2 + 1, none⟩ = some (.iface 9 (.string s)) := by
  subst hL
  have e1 := h.1.cellAt (k * 2) (by omega)
  have e2 := h.1.cellAt (k * 2 + 1) (by omega)
  rw [attrs_even hk] at e1
  rw [attrs_odd hk] at e2
  exact ⟨ss[k], List.getElem?_eq_getElem _, e1, e2⟩
theorem cellOne2 (w : World) (o : Obj) (v : Value) (t : TypeId) : ∀ j u, [v][j]? = some u → ((w.alloc o).alloc (.cells #[v] t)).cell? ((⟨w.heap.size + 1, 0, none⟩ : Addr).add j) = some u := by
  have := cellOne (w.alloc o) v t
  simpa using this
theorem strRow_of {w : World} {v : Value} {ss : List ByteArray} (h : w.ownsRow 0 9 1 v ss.length (strs ss)) : StrRow w v ss := by
  rcases h.2 with ⟨rfl, h0⟩ | ⟨g, cap, cur, rfl, -, -, -, -, -, -⟩
  · exact ⟨none, 0, by rw [h0], fun j s hj => by rw [List.length_eq_zero_iff.1 h0] at hj; simp at hj⟩
  · refine ⟨_, cap, rfl, fun j s hj => ⟨g, 0, rfl, ?_⟩⟩
    have := h.cells (g := g) rfl j (.string s) (by simp [strs, hj])
    rwa [addr_add] at this
theorem vals_of {w : World} {B p : Nat} {v : Value} {zs : List (Option Addr × Nat × Nat)} {yss : List (List ByteArray)} (h : w.ownsRow B 32 1 v p (zs.map encS)) (hp : zs.length = p) (hs : StrSets w zs (yss.take p)) (hy : yss.length = p) : Vals w v yss := by
  rw [List.take_of_length_le (by omega)] at hs
  rcases h.2 with ⟨rfl, h0⟩ | ⟨g, cap, cur, rfl, -, -, -, -, -, -⟩
  · exact ⟨none, 0, by rw [hy, h0], fun j ss hj => by rw [List.length_eq_zero_iff.1 (hy.trans h0)] at hj; simp at hj⟩
  · refine ⟨_, cap, by rw [hy], fun j ss hj => ?_⟩
    have hjl : j < zs.length := by have := (List.getElem?_eq_some_iff.1 hj).1; omega
    have hz : zs[j]? = some zs[j] := List.getElem?_eq_getElem hjl
    have hc := h.cells (g := g) rfl j (encS zs[j]) (by simp [hjl])
    rw [addr_add] at hc
    exact ⟨g, 0, _, rfl, hc, strRow_of (hs.2 j _ ss hz hj)⟩
theorem own_cells {w : World} {B e : Nat} {v : Value} {zs : List (Option Addr × Nat × Nat)} (h : w.ownsRow B e 1 v zs.length (zs.map encS)) :
    ∃ a c, v = .slice a zs.length c ∧ ∀ (j : Nat) z, zs[j]? = some z → ∃ g, a = some ⟨g, 0, none⟩ ∧ w.cell? ⟨g, j, none⟩ = some (encS z) := by
  rcases h.2 with ⟨rfl, h0⟩ | ⟨g, cap, cur, rfl, -, -, -, -, -, -⟩
  · exact ⟨none, 0, by rw [h0], fun j z hj => by rw [List.length_eq_zero_iff.1 h0] at hj; simp at hj⟩
  · refine ⟨_, cap, rfl, fun j z hj => ⟨g, rfl, ?_⟩⟩
    have := h.cells (g := g) rfl j (encS z) (by simp [hj])
    rwa [addr_add, Nat.zero_add] at this

set_option maxHeartbeats 1600000 in
theorem zz_any (v : Value) (xss : List (List ByteArray)) (w : World) (hV : Vals w v xss) (hN : xss.length ≤ 1048576) (hT : sumLen xss ≤ 1048576) :
    Calls Try.prog 13 #[v] w fun e w' => ∃ v', e = .returned (.tuple #[v', .bool (decide (16 < sumLen xss))]) ∧ Vals w' v' (shown xss) ∧ Below w.heap.size w w' := by
  obtain ⟨i1, hi1, hy0, hy1, hy2⟩ := info_parts info45
  obtain ⟨i0, hi, hz0, hz1, hz2⟩ := info_parts info41
  obtain ⟨i3, hi3, hx0, hx1, hx2⟩ := info_parts info32
  obtain ⟨i4, hi4, hs0, hs1, hs2⟩ := info_parts info9
  have hta := assertStr
  obtain ⟨a, cap, rfl, hc⟩ := hV
  have HC := Lib.hid hc
  have HTT := Lib.hid hT
  clear hc hT
  generalize hn : xss.length = n at *
  have HNN := Lib.hid hn
  clear hn
  go_enter Try.func13, Try.ntmps13
  go_wp2_with (at_make; refine wpList_make_own _ rfl _ _ 39 rfl w.heap.size 41 i0 (.slice none 0 0) 1 Try.underlying39 hi hz0 hz1 .i64 .i64 _ n rfl rfl (by omega) (by rw [hz2]; omega) (by unfold maxLen; omega) (Nat.le_refl _) ?_; intro w1 hown1 hgrow1; refine Hid.out ?_)
  refine Lib.hid ?_
  have hb1 : Below w.heap.size w w1 := (Below.refl _ _).grown hgrow1 (Nat.le_refl _) (fun k hk => by cases hk)
  have H1 := Lib.hid (And.intro hown1 hb1)
  clear hown1 hb1 hgrow1
  go_wp2
  go_loopw [4, 25] (fun v4 i wr => ∃ (k : Nat) (zs : List (Option Addr × Nat × Nat)), i = .int .i64 k ∧ k ≤ n ∧ zs.length = k ∧ wr.ownsRow w.heap.size 41 1 v4 zs.length (zs.map encS) ∧ Hid (v4 ≠ .slice none 0 0) ∧ Hid (SetRows wr zs (xss.take k)) ∧ Below w.heap.size w wr)
    (fun _ i _ => n - (RowKit.intOf i).toNat)
  case atStart => exact ⟨0, [], rfl, by omega, rfl, H1.out.1, (show _ ≠ _ by simp), ⟨by simp, fun j z ys h1 => by simp at h1⟩, H1.out.2⟩
  case round =>
    obtain ⟨k, zs, rfl, hk, hzk, hown, HNE, HSR, hnx⟩ := hrel
    have HZK := Lib.hid hzk
    clear hzk
    obtain ⟨wo, rfl⟩ : ∃ wo, wo = wr := ⟨_, rfl⟩
    by_cases hkn : k < n
    · obtain ⟨ss, hss⟩ : ∃ ss, xss[k]? = some ss := ⟨_, List.getElem?_eq_getElem (by have := HNN.out; omega)⟩
      obtain ⟨b, o, u, ha, hcell, hstr⟩ := HC.out k ss hss
      have hcell' := (hnx.cell (p := ⟨b, o + k, none⟩) (block_lt_of_cell hcell)).trans hcell
      have hstr' := hstr.below hnx
      obtain ⟨a', cap', rfl, hst⟩ := hstr'
      have hLs : ss.length ≤ 1048576 := by
        have h1 := HTT.out
        have h2 := sumLen_drop_le xss k
        have h3 := sumLen_drop (xs := xss) (k := k) (by have := HNN.out; omega)
        have h4 : xss[k]'(by have := HNN.out; omega) = ss := (List.getElem?_eq_some_iff.1 hss).2
        rw [h4] at h3
        omega
      subst ha
      have HS := Lib.hid hss
      have HST := Lib.hid hst
      clear hss hst hcell hstr
      generalize hl : ss.length = L at *
      have HL := Lib.hid hl
      clear hl
      have hki : (k : Int) < (n : Int) := by omega
      have hwz : w.heap.size ≤ wo.heap.size := hnx.size
      go_wp2_with (at_make; refine wpList_make_own _ rfl _ _ 41 rfl wo.heap.size 45 i1 (.agg #[.slice none 0 0, .nilIface]) 2 Try.underlying41 hi1 hy0 hy1 .i64 .i64 _ L rfl rfl (by omega) (by rw [hy2]; omega) (by unfold maxLen; omega) (Nat.le_refl _) ?_; intro w2 hown2 hgrow2; refine Hid.out ?_)
      refine Lib.hid ?_
      have hb2 : Below wo.heap.size wo w2 := (Below.refl _ _).grown hgrow2 (Nat.le_refl _) (fun k hk => by cases hk)
      have H2 := Lib.hid (And.intro hown2 hb2)
      clear hown2 hb2 hgrow2
      go_wp2
      go_loopw [7, 34] (fun v7 i wq => ∃ j : Nat, i = .int .i64 j ∧ j ≤ L ∧ wq.ownsRow wo.heap.size 45 2 v7 j (attrs (ss.take j)) ∧ Hid (v7 ≠ .slice none 0 0) ∧ Below wo.heap.size wo wq)
        (fun _ i _ => L - (RowKit.intOf i).toNat)
      case atStart => exact ⟨0, rfl, by omega, H2.out.1, (show _ ≠ _ by simp), H2.out.2⟩
      case round =>
        obtain ⟨j, rfl, hj, hownj, HNEj, hnj⟩ := hrel
        by_cases hjl : j < L
        · obtain ⟨s, hs⟩ : ∃ s, ss[j]? = some s := ⟨_, List.getElem?_eq_getElem (by have := HL.out; omega)⟩
          obtain ⟨bs, os, ha', hcs⟩ := HST.out j s hs
          subst ha'
          have hcs' := (hnj.cell (p := ⟨bs, os + j, none⟩) (block_lt_of_cell hcs)).trans hcs
          have HSJ := Lib.hid hs
          clear hs hcs
          have hji : (j : Int) < (L : Int) := by omega
          have hwz2 : wo.heap.size ≤ wr.heap.size := hnj.size
          go_wp2_with (at_builtin; refine wpList_append_own _ rfl _ _ 41 rfl wo.heap.size 45 i1 (.agg #[.slice none 0 0, .nilIface]) 2 40 Try.underlying41 hi1 hy0 hy1 hy2 rfl (by decide) _ _ _ rfl (hownj.alloc _) ⟨wr.heap.size, 0, none⟩ 1 1 [.slice none 0 0, .iface 9 (.string s)] rfl rfl (cellTwo _ _ _ _) (by intro u' hu'; simp at hu'; rcases hu' with rfl | rfl <;> rfl) (by unfold maxLen; omega) (by omega) (by simp; omega) ?_; intro v3 w3 hown3 hgrow3 hnn3; refine Hid.out ?_)
          refine Lib.hid ?_
          have hb3 : Below wo.heap.size wo w3 := (hnj.alloc hwz2 _).grown hgrow3 (by simp; omega) (fun k hk => (hownj.lt k hk).1)
          have hne3 : v3 ≠ .slice none 0 0 := fun e => HNEj.out (hnn3.1 e).1
          rw [attrs_snoc HSJ.out] at hown3
          have HX := Lib.hid (And.intro hown3 (And.intro hne3 hb3))
          clear hown3 hne3 hb3 hgrow3 hnn3 hownj
          go_wp2
          go_roundw
          case rel => exact ⟨j + 1, by go_num, by omega, HX.out.1, HX.out.2.1, HX.out.2.2⟩
          case measure => simp [RowKit.intOf]; omega
        · obtain rfl : j = L := by omega
          have hfull : SetRow wr u7 ss := ⟨own_base (by rw [HL.out]; simpa [← HL.out] using hownj) (Nat.zero_le _), HNEj.out⟩
          obtain ⟨g7, c7, hv7, -, -, -⟩ := hfull.form
          rw [HL.out] at hv7
          subst hv7
          have hset : SetRow wr (encS (some ⟨g7, 0, none⟩, j, c7)) ss := hfull
          have hownr := own_below hown hnj
          have hwz2 : wo.heap.size ≤ wr.heap.size := hnj.size
          have hwz3 : w.heap.size ≤ wr.heap.size := Nat.le_trans hwz hwz2
          have hzl := HZK.out
          go_wp2_with (at_builtin; refine wpList_append_own _ rfl _ _ 39 rfl w.heap.size 41 i0 (.slice none 0 0) 1 24 Try.underlying39 hi hz0 hz1 hz2 rfl (by decide) _ _ _ rfl (hownr.alloc _) ⟨wr.heap.size, 0, none⟩ 1 1 [.slice (some ⟨g7, 0, none⟩) j c7] rfl rfl (cellOne _ _ _) (by intro u' hu'; simp at hu'; subst hu'; rfl) (by unfold maxLen; omega) (by omega) (by simp; omega) ?_; intro v3 w3 hown3 hgrow3 hnn3; refine Hid.out ?_)
          refine Lib.hid ?_
          have hkk : Lib.OthersKept 41 none wr w3 := ((Lib.OthersKept.refl _ _ _).alloc _).grown hgrow3 (own_kind (hownr.alloc _))
          have hb3 : Below w.heap.size w w3 := ((hnx.trans (hnj.mono hnx.size)).alloc hwz3 _).grown hgrow3 (by simp; omega) (fun k hk => (hownr.lt k hk).1)
          have hsr3 := ((HSR.out.below hnj).others hkk).push (hset.others hkk)
          have hne3 : v3 ≠ .slice none 0 0 := fun e => HNE.out (hnn3.1 e).1
          have HX := Lib.hid (And.intro hown3 (And.intro hsr3 (And.intro hne3 hb3)))
          clear hkk hb3 hsr3 hne3 hown3 hgrow3 hnn3 hownr hset hfull hownj
          go_wp2
          go_roundw
          case rel =>
            have hkx : k < xss.length := by have := HNN.out; omega
            have h5 : xss.take (k + 1) = xss.take k ++ [ss] := by rw [List.take_succ_eq_append_getElem hkx, (List.getElem?_eq_some_iff.1 HS.out).2]
            exact ⟨k + 1, zs ++ [(some ⟨g7, 0, none⟩, j, c7)], by go_num, by omega, by simp; omega, by rw [List.length_append, List.map_append]; exact HX.out.1, HX.out.2.2.1, (show SetRows _ _ _ by rw [h5]; exact HX.out.2.1), HX.out.2.2.2⟩
          case measure => simp [RowKit.intOf]; omega
    · obtain rfl : k = n := by omega
      obtain ⟨g4, c4, hv4, hsets, hrow⟩ := outer_form hown HNE.out HSR.out HNN.out
      rw [HZK.out] at hv4 hrow
      subst hv4
      have hl := last_any g4 c4 zs xss wo (by rw [HNN.out]; exact own_base hrow (Nat.zero_le _)) hsets (by rw [HNN.out]; exact hN) HTT.out
      rw [HNN.out] at hl
      have HLA := Lib.hid hl
      clear hl hsets hrow hown
      go_wp2_with (go_at_call 18; refine Calls.mono HLA.out ?_; rintro e w2 ⟨vs, zs2, rfl, hown2, hsr2, hb2⟩; refine Hid.out ?_)
      refine Lib.hid ?_
      have hm := hsr2.1
      have hmn := shown_length_le xss
      rw [HNN.out] at hmn
      rw [← hm] at hmn
      obtain ⟨a2, c2, hvs, hcs2⟩ := own_cells hown2
      have hbw2 : Below w.heap.size w w2 := hnx.trans (hb2.mono hnx.size)
      subst hvs
      have H2 := Lib.hid (And.intro hsr2 (And.intro hbw2 hcs2))
      have HT2 : Hid (sumLen (shown xss) ≤ 16) := by have := sumLen_shown xss; show _ ≤ _; omega
      clear hown2 hsr2 hb2 hcs2 hbw2 HLA
      generalize hys : shown xss = yss at H2 HT2 hm
      have HY := Lib.hid hys
      clear hys
      generalize hbt : decide (16 < sumLen xss) = bt
      have HBT := Lib.hid hbt
      clear hbt
      generalize hmm : zs2.length = m at *
      have HMM := Lib.hid hmm
      have HM := Lib.hid hm
      clear hmm hm
      go_wp2_with (at_make; refine wpList_make_own _ rfl _ _ 28 rfl w2.heap.size 32 i3 (.slice none 0 0) 1 Try.underlying28 hi3 hx0 hx1 .i64 .i64 _ m rfl rfl (by omega) (by rw [hx2]; omega) (by unfold maxLen; omega) (Nat.le_refl _) ?_; intro w3 hown3 hgrow3; refine Hid.out ?_)
      refine Lib.hid ?_
      have hb3 : Below w2.heap.size w2 w3 := (Below.refl _ _).grown hgrow3 (Nat.le_refl _) (fun k hk => by cases hk)
      have H3 := Lib.hid (And.intro hown3 hb3)
      clear hown3 hb3 hgrow3
      go_wp2
      go_loopw [12, 60] (fun v12 i wr => ∃ (p : Nat) (zs3 : List (Option Addr × Nat × Nat)), i = .int .i64 p ∧ p ≤ m ∧ Hid (zs3.length = p) ∧ wr.ownsRow w2.heap.size 32 1 v12 p (zs3.map encS) ∧ Hid (StrSets wr zs3 (yss.take p)) ∧ Below w2.heap.size w2 wr)
        (fun _ i _ => m - (RowKit.intOf i).toNat)
      case atStart => exact ⟨0, [], rfl, by omega, rfl, H3.out.1, ⟨by simp, fun j z ys h1 => by simp at h1⟩, H3.out.2⟩
      case round =>
        obtain ⟨p, zs3, rfl, hp, HP, hownp, HSP, hnp⟩ := hrel
        obtain ⟨wv, rfl⟩ : ∃ wv, wv = wr := ⟨_, rfl⟩
        by_cases hpm : p < m
        · obtain ⟨z, hz⟩ : ∃ z, zs2[p]? = some z := ⟨_, List.getElem?_eq_getElem (by have := HMM.out; omega)⟩
          obtain ⟨ss, hss⟩ : ∃ ss, yss[p]? = some ss := ⟨_, List.getElem?_eq_getElem (by have := HM.out; omega)⟩
          obtain ⟨g2, ha2, hcell2⟩ := H2.out.2.2 p z hz
          have hset2 := (H2.out.1.2 p z ss hz hss).below hnp
          obtain ⟨gz, cz, hform, -, -, -⟩ := hset2.form
          have hcell3 := (hnp.cell (p := ⟨g2, p, none⟩) (block_lt_of_cell hcell2)).trans hcell2
          rw [hform] at hcell3 hset2
          have hLs : ss.length ≤ 16 := by
            have h1 := HT2.out
            have h2 := sumLen_drop_le yss p
            have h3 := sumLen_drop (xs := yss) (k := p) (by have := HM.out; omega)
            rw [(List.getElem?_eq_some_iff.1 hss).2] at h3
            omega
          subst ha2
          have HS := Lib.hid hss
          have HSET := Lib.hid hset2
          clear hz hss hcell2 hset2 hform
          generalize hl : ss.length = L at *
          have HL := Lib.hid hl
          clear hl
          have hpi : (p : Int) < (m : Int) := by omega
          have hwz : w2.heap.size ≤ wv.heap.size := hnp.size
          go_wp2_with (at_make; refine wpList_make_own _ rfl _ _ 32 rfl wv.heap.size 9 i4 (.string ⟨#[]⟩) 1 Try.underlying32 hi4 hs0 hs1 .i64 .i64 _ L rfl rfl (by omega) (by rw [hs2]; omega) (by unfold maxLen; omega) (Nat.le_refl _) ?_; intro w4 hown4 hgrow4; refine Hid.out ?_)
          refine Lib.hid ?_
          have hb4 : Below wv.heap.size wv w4 := (Below.refl _ _).grown hgrow4 (Nat.le_refl _) (fun k hk => by cases hk)
          have H4 := Lib.hid (And.intro hown4 hb4)
          clear hown4 hb4 hgrow4
          go_wp2
          go_loopw [15, 69] (fun v15 i wq => ∃ j : Nat, i = .int .i64 j ∧ j ≤ L ∧ wq.ownsRow wv.heap.size 9 1 v15 j (strs (ss.take j)) ∧ Below wv.heap.size wv wq)
            (fun _ i _ => L - (RowKit.intOf i).toNat)
          case atStart => exact ⟨0, rfl, by omega, H4.out.1, H4.out.2⟩
          case round =>
            obtain ⟨j, rfl, hj, hownj, hnj⟩ := hrel
            by_cases hjl : j < L
            · obtain ⟨s, hs, hcA, hcB⟩ := set_at (HSET.out.below hnj) HL.out hjl
              have HSJ := Lib.hid hs
              clear hs
              have hji : (j : Int) < (L : Int) := by omega
              have hwz2 : wv.heap.size ≤ wr.heap.size := hnj.size
              go_wp2_with (at_builtin; refine wpList_append_own _ rfl _ _ 32 rfl wv.heap.size 9 i4 (.string ⟨#[]⟩) 1 16 Try.underlying32 hi4 hs0 hs1 hs2 rfl (by decide) _ _ _ rfl ((hownj.alloc _).alloc _) ⟨wr.heap.size + 1, 0, none⟩ 1 1 [.string s] rfl rfl (cellOne2 _ _ _ _) (by intro u' hu'; simp at hu'; subst hu'; rfl) (by unfold maxLen; omega) (by omega) (by simp; omega) ?_; intro v5 w5 hown5 hgrow5 _; refine Hid.out ?_)
              refine Lib.hid ?_
              have hb5 : Below wv.heap.size wv w5 := ((hnj.alloc hwz2 _).alloc (by simp; omega) _).grown hgrow5 (by simp; omega) (fun k hk => (hownj.lt k hk).1)
              rw [strs_snoc HSJ.out] at hown5
              have HX := Lib.hid (And.intro hown5 hb5)
              clear hown5 hb5 hgrow5 hownj
              go_wp2
              go_roundw
              case rel => exact ⟨j + 1, by go_num, by omega, HX.out.1, HX.out.2⟩
              case measure => simp [RowKit.intOf]; omega
            · obtain rfl : j = L := by omega
              have hfull : wr.ownsRow 0 9 1 u15 ss.length (strs ss) := own_base (by rw [HL.out]; simpa [← HL.out] using hownj) (Nat.zero_le _)
              obtain ⟨⟨a5, n5, c5⟩, hz5⟩ := own_enc hfull
              have hz5' : u15 = .slice a5 n5 c5 := hz5
              clear hz5
              subst hz5'
              have hownr := own_below hownp hnj
              have hwz2 : wv.heap.size ≤ wr.heap.size := hnj.size
              have hwz3 : w2.heap.size ≤ wr.heap.size := Nat.le_trans hwz hwz2
              go_wp2_with (at_builtin; refine wpList_append_own _ rfl _ _ 28 rfl w2.heap.size 32 i3 (.slice none 0 0) 1 24 Try.underlying28 hi3 hx0 hx1 hx2 rfl (by decide) _ _ _ rfl (hownr.alloc _) ⟨wr.heap.size, 0, none⟩ 1 1 [.slice a5 n5 c5] rfl rfl (cellOne _ _ _) (by intro u' hu'; simp at hu'; subst hu'; rfl) (by unfold maxLen; omega) (by omega) (by simp; omega) ?_; intro v6 w6 hown6 hgrow6 _; refine Hid.out ?_)
              refine Lib.hid ?_
              have hkk : Lib.OthersKept 32 none wr w6 := ((Lib.OthersKept.refl _ _ _).alloc _).grown hgrow6 (own_kind (hownr.alloc _))
              have hb6 : Below w2.heap.size w2 w6 := ((hnp.trans (hnj.mono hnp.size)).alloc hwz3 _).grown hgrow6 (by simp; omega) (fun k hk => (hownr.lt k hk).1)
              have hsr6 := ((HSP.out.below hnj).others hkk).push (z := (a5, n5, c5)) (own_others hfull hkk (by decide))
              have HX := Lib.hid (And.intro hown6 (And.intro hsr6 hb6))
              clear hkk hb6 hsr6 hown6 hgrow6 hownr hfull hownj
              go_wp2
              go_roundw
              case rel =>
                have hkx : p < yss.length := by have := HM.out; omega
                have h5 : yss.take (p + 1) = yss.take p ++ [ss] := by rw [List.take_succ_eq_append_getElem hkx, (List.getElem?_eq_some_iff.1 HS.out).2]
                exact ⟨p + 1, zs3 ++ [(a5, n5, c5)], by go_num, by omega, (show _ = _ by rw [List.length_append, HP.out]; rfl), by rw [List.map_append]; exact HX.out.1, (show StrSets _ _ _ by rw [h5]; exact HX.out.2.1), HX.out.2.2⟩
              case measure => simp [RowKit.intOf]; omega
        · obtain rfl : p = m := by omega
          have hV := vals_of hownp HP.out HSP.out HM.out.symm
          have HX := Lib.hid (And.intro hV (H2.out.2.1.trans (hnp.mono H2.out.2.1.size)))
          clear hV hownp
          go_wp2
          go_ret2
          exact ⟨u12, by rw [HBT.out]; rfl, by rw [HY.out]; exact HX.out⟩
end Go.Proofs.Qxb6615602a
