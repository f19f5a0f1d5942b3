import Derived.Test.Qxb6615602aRev
import Derived.Deep.RegionHeld3
namespace Go.Proofs.Qxb6615602a
open Go.RowKit

/-- the values zs lead to the sets yss -/
def SetRows (w : World) (zs : List (Option Addr × Nat × Nat)) (yss : List (List ByteArray)) : Prop :=
  zs.length = yss.length ∧ ∀ (j : Nat) z ys, zs[j]? = some z → yss[j]? = some ys → SetRow w (encS z) ys
theorem SetRows.below {w w' : World} {zs : List (Option Addr × Nat × Nat)} {yss : List (List ByteArray)} (h : SetRows w zs yss) (hb : Below w.heap.size w w') : SetRows w' zs yss := ⟨h.1, fun j z ys h1 h2 => (h.2 j z ys h1 h2).below hb⟩
theorem SetRows.others {w w' : World} {zs : List (Option Addr × Nat × Nat)} {yss : List (List ByteArray)} (h : SetRows w zs yss) (hk : Lib.OthersKept 41 none w w') : SetRows w' zs yss := ⟨h.1, fun j z ys h1 h2 => (h.2 j z ys h1 h2).others hk⟩
theorem SetRows.push {w : World} {zs : List (Option Addr × Nat × Nat)} {yss : List (List ByteArray)} (h : SetRows w zs yss) {z : Option Addr × Nat × Nat} {ys : List ByteArray} (hz : SetRow w (encS z) ys) : SetRows w (zs ++ [z]) (yss ++ [ys]) := by
  refine ⟨by simp [h.1], fun j z' ys' h1 h2 => ?_⟩
  by_cases hj : j < zs.length
  · rw [List.getElem?_append_left hj] at h1
    rw [List.getElem?_append_left (by rw [← h.1]; exact hj)] at h2
    exact h.2 j z' ys' h1 h2
  · rw [List.getElem?_append_right (by omega)] at h1
    rw [List.getElem?_append_right (by rw [← h.1]; omega)] at h2
    have hj0 : j - zs.length = 0 := by
      have := (List.getElem?_eq_some_iff.1 h1).1
      simp at this
      omega
    rw [hj0] at h1
    rw [← h.1, hj0] at h2
    simp at h1 h2
    subst h1; subst h2
    exact hz
theorem SetRows.rev {w : World} {zs : List (Option Addr × Nat × Nat)} {yss : List (List ByteArray)} (h : SetRows w zs yss) : SetRows w zs.reverse yss.reverse := by
  refine ⟨by simp [h.1], fun j z ys h1 h2 => ?_⟩
  have hj : j < zs.length := by simpa using (List.getElem?_eq_some_iff.1 h1).1
  rw [List.getElem?_reverse hj] at h1
  rw [List.getElem?_reverse (by rw [← h.1]; exact hj), ← h.1] at h2
  exact h.2 _ z ys h1 h2

/-- sets, the first k of them cut -/
def mixed (ts : List ByteArray) (k : Nat) : List ByteArray := (ts.take k).map cut ++ ts.drop k

theorem row_at {w wr : World} {g cap n q : Nat} {zs0 : List (Option Addr × Nat × Nat)} {xss : List (List ByteArray)} (hrow : w.ownsRow 0 41 1 (.slice (some ⟨g, 0, none⟩) n cap) n (zs0.map encS)) (hsets : SetRows w zs0 xss) (hnx : Below w.heap.size w wr) (hn : xss.length = n) (hq : q < n) :
    ∃ gz cz, wr.cell? ⟨g, q, none⟩ = some (.slice (some ⟨gz, 0, none⟩) (xss[q]'(by omega)).length cz) ∧ (xss[q]'(by omega)).length ≤ cz ∧ cz ≤ maxLen ∧ SetRow wr (.slice (some ⟨gz, 0, none⟩) (xss[q]'(by omega)).length cz) (xss[q]'(by omega)) ∧
      sumLen (xss.drop q) = (xss[q]'(by omega)).length + sumLen (xss.drop (q + 1)) := by
  have hzl : zs0.length = n := by rw [hsets.1, hn]
  have hset := hsets.2 q (zs0[q]'(by omega)) (xss[q]'(by omega)) (List.getElem?_eq_getElem _) (List.getElem?_eq_getElem _)
  obtain ⟨gz, cz, hform, h1, h2, -⟩ := hset.form
  have hc := hrow.cells (g := g) rfl q (encS (zs0[q]'(by omega))) (by simp [hzl, hq])
  rw [addr_add, Nat.zero_add, hform] at hc
  rw [hform] at hset
  exact ⟨gz, cz, (hnx.cell (p := ⟨g, q, none⟩) (block_lt_of_cell hc)).trans hc, h1, h2, hset.below hnx, sumLen_drop (by omega)⟩

theorem clone_form {w1 : World} {B : Nat} {v : Value} {ts : List ByteArray} (h : w1.ownsRow B 45 2 v ts.length (attrs ts)) (hne : v ≠ .slice none 0 0) :
    ∃ b c, v = .slice (some ⟨b, 0, none⟩) ts.length c ∧ ts.length ≤ c ∧ c ≤ maxLen ∧ B ≤ b ∧ w1.ownsRow B 45 2 (.slice (some ⟨b, 0, none⟩) ts.length c) ts.length (attrs ts) := by
  rcases h.2 with ⟨hv, _⟩ | ⟨g, cap, cur, hv, hB, hh, hn, hm, -, -⟩
  · exact absurd hv hne
  · exact ⟨g, cap, hv, hn, hm, hB, hv ▸ h⟩

theorem cellOne (w : World) (v : Value) (t : TypeId) : ∀ j u, [v][j]? = some u → (w.alloc (.cells #[v] t)).cell? ((⟨w.heap.size, 0, none⟩ : Addr).add j) = some u := by
  intro j u hj
  match j, hj with
  | 0, hj => simp at hj; subst hj; simp [Addr.add]
theorem take_min (l : List ByteArray) (m : Nat) : l.take (min l.length m) = l.take m := by
  by_cases h : l.length ≤ m
  · rw [Nat.min_eq_left h, List.take_of_length_le (Nat.le_refl _), List.take_of_length_le h]
  · rw [Nat.min_eq_right (by omega)]
theorem assertStr (s : ByteArray) (w : World) : (Instr.typeAssert (.iface 9 (.string s)) 20 9 true).run Try.prog w = .ok (.tuple #[.string s, .bool true]) w := by kernel_rfl
theorem mixed_length (ts : List ByteArray) (k : Nat) : (mixed ts k).length = ts.length := by
  simp [mixed]
  omega
theorem mixed_get {ts : List ByteArray} {k : Nat} (h : k < ts.length) : (mixed ts k)[k]'(by rw [mixed_length]; exact h) = ts[k] := by
  have e : (mixed ts k)[k]? = ts[k]? := by
    unfold mixed
    rw [List.getElem?_append_right (by simp; omega)]
    simp [show min k ts.length = k by omega]
  rw [List.getElem?_eq_getElem (by rw [mixed_length]; exact h), List.getElem?_eq_getElem h] at e
  exact Option.some.inj e
theorem attrs_set (l : List ByteArray) (k : Nat) (x : ByteArray) : (attrs l).set (k * 2 + 1) (.iface 9 (.string x)) = attrs (l.set k x) := by
  induction l generalizing k with
  | nil => simp [attrs]
  | cons s l ih =>
    cases k with
    | zero => simp [attrs, attr]
    | succ k =>
      have : (k + 1) * 2 + 1 = k * 2 + 1 + 1 + 1 := by omega
      simp only [attrs, attr, List.cons_append, List.nil_append, this, List.set_cons_succ, ih]
theorem mixed_succ {ts : List ByteArray} {k : Nat} {s : ByteArray} (h : ts[k]? = some s) : mixed ts (k + 1) = (mixed ts k).set k (cut s) := by
  have hk : k < ts.length := (List.getElem?_eq_some_iff.1 h).1
  have hs : ts[k] = s := (List.getElem?_eq_some_iff.1 h).2
  unfold mixed
  rw [List.set_append_right _ _ (by simp; omega), List.take_succ_eq_append_getElem hk, List.drop_eq_getElem_cons hk, hs]
  simp [show min k ts.length = k by omega]
theorem mixed_whole (ts : List ByteArray) : mixed ts ts.length = ts.map cut := by simp [mixed]
theorem inner_cut {wo w : World} {b c M k : Nat} {ts : List ByteArray} {s : ByteArray} {o : Obj} (h : w.ownsRow wo.heap.size 45 2 (.slice (some ⟨b, 0, none⟩) M c) M (attrs (mixed ts k))) (hb : Below wo.heap.size wo w) (hs : ts[k]? = some s) (hlen : 256 < s.size) (hB : wo.heap.size ≤ b) :
    ((w.setCell ⟨b, k * 2 + 1, none⟩ (.iface 9 (.string (s.extract 0 257)))).alloc o).ownsRow wo.heap.size 45 2 (.slice (some ⟨b, 0, none⟩) M c) M (attrs (mixed ts (k + 1))) ∧ Below wo.heap.size wo ((w.setCell ⟨b, k * 2 + 1, none⟩ (.iface 9 (.string (s.extract 0 257)))).alloc o) := by
  have e : cut s = s.extract 0 257 := by simp [cut, hlen]
  have h1 := (h.stored (k * 2 + 1) (.iface 9 (.string (s.extract 0 257)))).1
  rw [attrs_set, ← e, ← mixed_succ hs] at h1
  rw [← e]
  exact ⟨h1.alloc o, (hb.setCell hB _).alloc (by have := hb.size; simpa [World.setCell] using this) o⟩
theorem inner_keep {wo w : World} {b c M k : Nat} {ts : List ByteArray} {s : ByteArray} {o : Obj} (h : w.ownsRow wo.heap.size 45 2 (.slice (some ⟨b, 0, none⟩) M c) M (attrs (mixed ts k))) (hb : Below wo.heap.size wo w) (hs : ts[k]? = some s) (hlen : ¬ 256 < s.size) :
    (w.alloc o).ownsRow wo.heap.size 45 2 (.slice (some ⟨b, 0, none⟩) M c) M (attrs (mixed ts (k + 1))) ∧ Below wo.heap.size wo (w.alloc o) := by
  have hk : k < ts.length := (List.getElem?_eq_some_iff.1 hs).1
  have e : cut s = s := by simp [cut, hlen]
  have e2 : mixed ts (k + 1) = mixed ts k := by
    rw [mixed_succ hs, e, ← (List.getElem?_eq_some_iff.1 hs).2, ← mixed_get hk]
    simp
  rw [e2]
  exact ⟨h.alloc o, hb.alloc hb.size o⟩
theorem mixed_at {w : World} {B b c M k : Nat} {ts : List ByteArray} (h : w.ownsRow B 45 2 (.slice (some ⟨b, 0, none⟩) M c) M (attrs (mixed ts k))) (hM : ts.length = M) (hk : k < M) :
    ∃ s, ts[k]? = some s ∧ w.cell? ⟨b, k * 2, none⟩ = some (.slice none 0 0) ∧ w.cell? ⟨b, k * 2 + 1, none⟩ = some (.iface 9 (.string s)) ∧ w.frozen? ⟨b, k * 2 + 1, none⟩ = false ∧ b < w.heap.size := by
  have hl : k < (mixed ts k).length := by rw [mixed_length]; omega
  have e1 := h.cellAt (k * 2) (by omega)
  have e2 := h.cellAt (k * 2 + 1) (by omega)
  rw [attrs_even hl] at e1
  rw [attrs_odd hl, mixed_get (by omega)] at e2
  exact ⟨ts[k]'(by omega), List.getElem?_eq_getElem _, e1, e2, h.frozenAt _, block_lt_of_cell e1⟩

set_option maxHeartbeats 1600000 in
theorem last_any (g cap : Nat) (zs0 : List (Option Addr × Nat × Nat)) (xss : List (List ByteArray)) (w : World) (hrow : w.ownsRow 0 41 1 (.slice (some ⟨g, 0, none⟩) xss.length cap) xss.length (zs0.map encS)) (hsets : SetRows w zs0 xss) (hN : xss.length ≤ 1048576) (hT : sumLen xss ≤ 1048576) :
    Calls Try.prog 18 #[.slice (some ⟨g, 0, none⟩) xss.length cap] w fun e w' => ∃ vs zs, e = .returned (.tuple #[vs, .bool (decide (16 < sumLen xss))]) ∧ w'.ownsRow w.heap.size 41 1 vs zs.length (zs.map encS) ∧ SetRows w' zs (shown xss) ∧ Below w.heap.size w w' := by
  obtain ⟨i0, hi, hz0, hz1, hz2⟩ := info_parts info41
  have hta := assertStr
  have HROW := Lib.hid hrow
  have HSETS := Lib.hid hsets
  have HTT := Lib.hid hT
  clear hrow hsets hT
  generalize hn : xss.length = n at *
  have HNN := Lib.hid hn
  clear hn
  go_enter Try.func18, Try.ntmps18
  go_wp2
  go_loopw [4, 5, 6, 7] (fun vs kp tt i wr => ∃ (k κ S : Nat) (zs : List (Option Addr × Nat × Nat)), i = .int .i64 ((k : Int) - 1) ∧ kp = .int .i64 κ ∧ tt = .int .i64 S ∧ k ≤ n ∧ κ ≤ 16 ∧ S ≤ 1048576 ∧ Hid (κ = min 16 (sumLen (xss.drop k)) ∧ S = sumLen (xss.drop k)) ∧
      wr.ownsRow w.heap.size 41 1 vs zs.length (zs.map encS) ∧ Hid (SetRows wr zs (shown (xss.drop k)).reverse) ∧ Below w.heap.size w wr)
    (fun _ _ _ i _ => (RowKit.intOf i + 1).toNat)
  case atStart => exact ⟨n, 0, 0, [], rfl, rfl, rfl, Nat.le_refl _, by omega, by omega, ⟨by rw [← HNN.out]; simp [sumLen], by rw [← HNN.out]; simp [sumLen]⟩, World.ownsRow_nil _ _ _ _, ⟨by rw [← HNN.out]; simp [shown], fun j z ys h1 => by simp at h1⟩, Below.refl _ _⟩
  case round =>
    obtain ⟨k, κ, S, zs, rfl, rfl, rfl, hk, hκ, hS, HE, hown, HSR, hnx⟩ := hrel
    by_cases hk0 : 0 < k
    · obtain ⟨q, rfl⟩ : ∃ q, k = q + 1 := ⟨k - 1, by omega⟩
      obtain ⟨gz, cz, hzc, hLz, hcz, hset, hsum⟩ := row_at HROW.out HSETS.out hnx HNN.out (q := q) (by omega)
      generalize hss : xss[q]'(by have := HNN.out; omega) = ss at hzc hLz hset hsum
      have hL0 : ss.length + S ≤ 1048576 := by
        have := sumLen_drop_le xss q
        have h2 := HTT.out
        have h3 := HE.out.2
        omega
      have HS := Lib.hid hss
      have HSET := Lib.hid hset
      have HSUM := Lib.hid hsum
      clear hss hset hsum
      generalize hLL : ss.length = L at hzc hLz hL0
      have HL := Lib.hid hLL
      clear hLL
      have hqi : (0 : Int) ≤ (q : Int) := by omega
      have hqn : (q : Int) < (n : Int) := by omega
      have hLi : (L : Int) ≤ 1048576 := by omega
      by_cases h16 : 16 ≤ S
      · obtain rfl : κ = 16 := by have := HE.out; omega
        go_wp2
        go_roundw
        case rel =>
          have h1 := HE.out
          have h2 := HSUM.out
          have h3 := HL.out
          exact ⟨q, 16, S + L, zs, rfl, rfl, by go_num, by omega, by omega, by omega, ⟨by omega, by omega⟩, hown, (show SetRows wr zs (shown (xss.drop q)).reverse by rw [shown_drop_skip (by have := HNN.out; omega) (by omega)]; exact HSR.out), hnx⟩
        case measure => simp [RowKit.intOf]
      · obtain rfl : κ = S := by have := HE.out; omega
        have h16' : ((κ : Int) == 16) = false := by simp; omega
        have hκ15 : (κ : Int) ≤ 15 := by omega
        have hLc : (L : Int) ≤ (cz : Int) := by omega
        obtain ⟨M, hM1, hM2⟩ : ∃ M, M ≤ L ∧ M = min L (16 - κ) := ⟨_, by omega, rfl⟩
        have HM := Lib.hid hM2
        clear hM2
        unfold maxLen at hcz
        have hw16 : IntKind.i64.wrap (16 - (κ : Int)) = 16 - (κ : Int) := by simp [IntKind.wrap, IntKind.signed, IntKind.bits]; omega
        have hmin : min (L : Int) (16 - (κ : Int)) = (M : Int) := by have := HM.out; omega
        have hM0 : (0 : Int) ≤ (M : Int) := by omega
        have hMc : (M : Int) ≤ (cz : Int) := by omega
        have hset := HSET.out
        rw [HL.out] at hset
        have hset' := SetRow.cutTo (by rw [HL.out]; exact hset) (show M ≤ ss.length by rw [HL.out]; exact hM1)
        have hcl := clone_any _ (ss.take M) wr.drew hset' (by rw [List.length_take, HL.out]; omega)
        have HCL := Lib.hid hcl
        clear hset hset' hcl
        go_wp2
        go_region_held3 (fun w' => w'.cell? ⟨g, q, none⟩ = some (.slice (some ⟨gz, 0, none⟩) L cz)) (first | go_keep | (rw [hkeep]; assumption)) ((go_at_call 19; refine Calls.mono HCL.out ?_; rintro e w1 ⟨v1, rfl, hown1, hne1, hb1⟩; have hkeep := hb1.cell (p := ⟨g, q, none⟩) (block_lt_of_cell hzc)))
        obtain ⟨b1, c1, hv1, hMc1, hc1m, hb1w, hown1'⟩ := clone_form hown1 hne1
        have hTl : (ss.take M).length = M := by rw [List.length_take, HL.out]; omega
        rw [hTl] at hv1 hown1' hMc1
        subst hv1
        have hbw1 : Below wr.heap.size wr w1 := (Below.refl _ wr).drew.trans hb1
        have HB1 := Lib.hid hbw1
        have HTS := Lib.hid hTl
        have HKEEP := Lib.hid hkeep
        have HO1 := Lib.hid hown1'
        clear hown1 hne1 hb1 hbw1 hTl hown1' hkeep HCL
        generalize hts : ss.take M = ts at HTS HO1
        have HTS2 := Lib.hid hts
        clear hts
        go_wp2
        obtain ⟨wo, rfl⟩ : ∃ wo, wo = wr := ⟨_, rfl⟩
        go_loopw [45] (fun j wq => ∃ k : Nat, k ≤ M ∧ j = .int .i64 k ∧ Hid (wq.ownsRow wo.heap.size 45 2 (.slice (some ⟨b1, 0, none⟩) M c1) M (attrs (mixed ts k))) ∧ Hid (Below wo.heap.size wo wq))
          (fun j _ => M - (RowKit.intOf j).toNat)
        case atStart => exact ⟨0, by omega, rfl, (show World.ownsRow _ _ _ _ _ _ _ by simpa [mixed] using HO1.out), HB1.out⟩
        case round =>
          obtain ⟨k, hkM, rfl, HO, HB⟩ := hrel
          by_cases hkl : k < M
          · obtain ⟨s, hs, hcA, hcB, hfB, hb1lt⟩ := mixed_at HO.out HTS.out hkl
            have HSS := Lib.hid hs
            clear hs
            by_cases hlen : 256 < s.size
            · have hleni : (256 : Int) < (s.size : Int) := by omega
              go_wp2
              go_roundw
              case rel => exact ⟨k + 1, by omega, by go_num, inner_cut HO.out HB.out HSS.out hlen hb1w⟩
              case measure => simp [RowKit.intOf]; omega
            · have hleni : ¬ (256 : Int) < (s.size : Int) := by omega
              go_wp2
              go_roundw
              case rel => exact ⟨k + 1, by omega, by go_num, inner_keep HO.out HB.out HSS.out hlen⟩
              case measure => simp [RowKit.intOf]; omega
          · obtain rfl : k = M := by omega
            have hset1 : SetRow wr (encS (some ⟨b1, 0, none⟩, k, c1)) (ts.map cut) := ⟨own_base (by rw [List.length_map, HTS.out, ← mixed_whole, HTS.out]; exact HO.out) (Nat.zero_le _), by simp [encS]⟩
            have hzl : zs.length ≤ n := by
              have h1 := HSR.out.1
              have h2 := shown_length_le (xss.drop (q + 1))
              rw [List.length_reverse] at h1
              rw [List.length_drop, HNN.out] at h2
              omega
            have hsz : wo.heap.size ≤ wr.heap.size := HB.out.size
            have hwsz : w.heap.size ≤ wr.heap.size := Nat.le_trans hnx.size hsz
            have hb2 := HB.out
            have hownr := own_below hown hb2
            go_wp2_with (at_builtin; refine wpList_append_own _ rfl _ _ 39 rfl w.heap.size 41 i0 (.slice none 0 0) 1 24 Try.underlying39 hi hz0 hz1 hz2 rfl (by decide) _ _ _ rfl (hownr.alloc _) ⟨wr.heap.size, 0, none⟩ 1 1 [.slice (some ⟨b1, 0, none⟩) k c1] rfl rfl (cellOne _ _ _) (by intro u' hu'; simp at hu'; subst hu'; rfl) (by unfold maxLen; omega) (by omega) (by simp; omega) ?_; intro v3 w3 hown3 hgrow3 _; refine Hid.out ?_)
            refine Lib.hid ?_
            have hkk : Lib.OthersKept 41 none wr w3 := ((Lib.OthersKept.refl _ _ _).alloc _).grown hgrow3 (own_kind (hownr.alloc _))
            have hb3 : Below w.heap.size w w3 := ((hnx.trans (hb2.mono hnx.size)).alloc (by have := hnx.size; omega) _).grown hgrow3 (by have := hnx.size; simp; omega) (fun k hk => (hownr.lt k hk).1)
            have hsr3 := ((HSR.out.below hb2).others hkk).push (hset1.others hkk)
            have HX := Lib.hid (And.intro hown3 (And.intro hsr3 hb3))
            clear hkk hb3 hsr3 hown3 hgrow3 hownr hb2 hset1
            go_wp2
            go_roundw
            case rel =>
              have h1 := HE.out
              have h2 := HSUM.out
              have h3 := HL.out
              have h4 := HM.out
              have h5 : shown (xss.drop q) = ts.map cut :: shown (xss.drop (q + 1)) := by
                rw [shown_drop_take (by have := HNN.out; omega) (by omega), HS.out, ← HTS2.out, h4, ← h3, take_min, h1.2]
              exact ⟨q, κ + k, κ + L, zs ++ [(some ⟨b1, 0, none⟩, k, c1)], rfl, by go_num, by go_num, by omega, by omega, by omega, ⟨by omega, by omega⟩, by rw [List.length_append, List.map_append]; exact HX.out.1,
                (show SetRows _ _ _ by rw [h5, List.reverse_cons]; exact HX.out.2.1), HX.out.2.2⟩
            case measure => simp [RowKit.intOf]
    · obtain rfl : k = 0 := by omega
      have hc := reverse_own _ u4 zs wr hown
      have HC := Lib.hid hc
      have HO := Lib.hid hown
      clear hc hown
      go_wp2_with (go_at_call 20; refine Calls.mono HC.out ?_; rintro e w1 ⟨rfl, hown1, hgr1⟩; refine Hid.out ?_)
      refine Lib.hid ?_
      have hb1 := hnx.grown hgr1 hnx.size (fun k hk => (HO.out.lt k hk).1)
      have hk1 : Lib.OthersKept 41 none wr w1 := (Lib.OthersKept.refl _ _ _).grown hgr1 (own_kind HO.out)
      have hsr := (HSR.out.others hk1).rev
      rw [List.reverse_reverse, List.drop_zero] at hsr
      have HX := Lib.hid (And.intro hown1 (And.intro hsr hb1))
      have hE := HE.out
      rw [List.drop_zero] at hE
      have HE' := Lib.hid hE
      clear hown1 hsr hb1 hgr1 hk1 hE HE
      go_wp2
      go_ret2
      refine ⟨u4, zs.reverse, ?_, ?_, HX.out.2⟩
      · obtain ⟨h1, h2⟩ := HE'.out
        rw [show decide (16 < sumLen xss) = decide (κ < S) from decide_eq_decide.2 (by omega)]
        rfl
      · rw [List.length_reverse]; exact HX.out.1
end Go.Proofs.Qxb6615602a
