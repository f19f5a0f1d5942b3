import Derived.Test.Qxb6608607aWith
import Derived.Laws.CopyOwn
namespace Go.Proofs.Qxb6608607a
open Go.RowKit

def IsB (e : Ending) : Prop := ∃ b : Bool, e = .returned (.bool b)
theorem isB_mk (b : Bool) : IsB (.returned (.bool b)) := ⟨b, rfl⟩
set_option maxHeartbeats 1600000 in
theorem bytes11 (a0 a1 a2 : Option Addr) (n0 n1 n2 c0 c1 c2 : Nat) (j0 j1 j2 j3 : Int) (w : World) :
    Calls Try.prog 11 #[.slice a0 n0 c0, .slice a1 n1 c1, .slice a2 n2 c2, .agg #[.int .u8 j0, .int .u8 j1, .int .u8 j2, .int .u8 j3]] w fun e w' => IsB e ∧ w' = w.alloc (.cells #[.int .u8 j0, .int .u8 j1, .int .u8 j2, .int .u8 j3] 30) := by
  by_cases h0 : (1048576 : Int) < (n0 : Int)
  · go_enter Try.func11, Try.ntmps11
    go_wp2
    go_ret
    exact ⟨isB_mk _, rfl⟩
  have h0' : (n0 : Int) ≤ 1048576 := by omega
  by_cases h1 : (1048576 : Int) < (n1 : Int)
  · go_enter Try.func11, Try.ntmps11
    go_wp2
    go_ret
    exact ⟨isB_mk _, rfl⟩
  have h1' : (n1 : Int) ≤ 1048576 := by omega
  by_cases h2 : (1048576 : Int) < (n0 : Int) + (n1 : Int)
  · go_enter Try.func11, Try.ntmps11
    go_wp2
    go_ret
    exact ⟨isB_mk _, rfl⟩
  have h2' : (n0 : Int) + (n1 : Int) ≤ 1048576 := by omega
  by_cases h3 : (1048576 : Int) < (n2 : Int)
  · go_enter Try.func11, Try.ntmps11
    go_wp2
    go_ret
    exact ⟨isB_mk _, rfl⟩
  have h3' : (n2 : Int) ≤ 1048576 := by omega
  by_cases h4 : (1048576 : Int) < (n0 : Int) + (n1 : Int) + (n2 : Int)
  · go_enter Try.func11, Try.ntmps11
    go_wp2
    go_ret
    exact ⟨isB_mk _, rfl⟩
  have h4' : (n0 : Int) + (n1 : Int) + (n2 : Int) ≤ 1048576 := by omega
  go_enter Try.func11, Try.ntmps11
  go_wp2
  go_ret
  exact ⟨isB_mk _, rfl⟩

/-- bytes that came in -/
def Came (w : World) (a : Option Addr) (c : Nat) (xs : List Int) : Prop := At w a xs ∧ (a = none → xs = [] ∧ c = 0) ∧ xs.length ≤ c
theorem Came.below {w w' : World} {a : Option Addr} {c : Nat} {xs : List Int} (h : Came w a c xs) (hb : Below w.heap.size w w') : Came w' a c xs := ⟨h.1.below hb, h.2.1, h.2.2⟩
theorem At.add {w : World} {ad : Addr} {xs : List Int} (h : At w (some ad) xs) : ∀ j u, (bts xs)[j]? = some u → w.cell? (ad.add j) = some u := fun j u hj => by
  obtain ⟨z, hz, rfl⟩ := bts_at hj
  obtain ⟨b, o, hh, hk⟩ := h j z hz
  obtain rfl : ad = ⟨b, o, none⟩ := Option.some.inj hh
  rw [addr_add]
  exact hk
theorem size5 : (Try.prog.info? 5).map (·.size) = some 1 := by kernel_rfl
theorem made_block {w : World} {B n : Nat} {g : Nat} {xs : List Value} (h : w.ownsRow B 5 1 (.slice (some ⟨g, 0, none⟩) n n) n xs) : ∃ cur : Array Value, w.heap[g]? = some (.cells cur 5 (0, 0)) ∧ cur.size = n := by
  rcases h.2 with ⟨hv, _⟩ | ⟨g', cap', cur, hv, hb, hh, _, _, hs, _⟩
  · cases hv
  · cases hv
    exact ⟨cur, hh, by simpa using hs⟩
theorem zzEqN (a b : Option Addr) (ca cb n : Nat) (xs : List Int) (w : World) (ha : At w a xs) (hb : At w b xs) (hl : n ≤ 1099511627776) (hn : xs.length = n) :
    Calls Try.prog 9 #[.slice a n ca, .slice b n cb] w fun e w' => e = .returned (.bool true) ∧ ∃ n, w' = w.drewN n := by
  subst hn
  exact zzEq9 a b ca cb xs w ha hb hl

theorem mid_take {xs0 xs1 l : List Int} {n0 n1 : Nat} (h0 : xs0.length = n0) (h1 : xs1.length = n1) {m : List Int} : ((xs0 ++ xs1 ++ l ++ m).drop n0).take n1 = xs1 := by
  subst h0 h1
  simp
theorem buf_mid {xs0 xs1 m : List Int} {n0 n1 : Nat} {z : Int} (h0 : xs0.length = n0) (h1 : xs1.length = n1) : ((xs0 ++ xs1 ++ le z ++ m).drop n0).take (n1 + 4) = xs1 ++ le z := by
  subst h0 h1
  have e : xs1.length + 4 = (xs1 ++ le z).length := by rw [List.length_append]; rfl
  rw [List.append_assoc xs0, List.append_assoc xs0, List.drop_left, e, List.take_left]
theorem buf_end {xs0 xs1 m : List Int} {n0 n1 p : Nat} {z : Int} (h0 : xs0.length = n0) (h1 : xs1.length = n1) (hp : n0 + n1 + 4 = p) : (xs0 ++ xs1 ++ le z ++ m).drop p = m := by
  subst h0 h1 hp
  have e : xs0.length + xs1.length + 4 = (xs0 ++ xs1 ++ le z).length := by rw [List.length_append, List.length_append]; rfl
  rw [e, List.drop_left]
theorem put_mid {xs0 xs1 m : List Int} {n0 n1 : Nat} {j0 j1 j2 j3 z : Int} (h0 : xs0.length = n0) (h1 : xs1.length = n1) : put4 (xs0 ++ xs1 ++ [j0, j1, j2, j3] ++ m) (n0 + n1) z = xs0 ++ xs1 ++ le z ++ m := by
  subst h0 h1
  unfold put4 le
  have e : xs0.length + xs1.length = (xs0 ++ xs1).length := by simp
  rw [e]
  generalize xs0 ++ xs1 = q
  simp [List.set_append_right]

set_option maxHeartbeats 6400000 in
set_option maxRecDepth 20000 in
theorem law_any (a0 a1 a2 : Option Addr) (c0 c1 c2 : Nat) (xs0 xs1 xs2 : List Int) (j0 j1 j2 j3 : Int) (w : World) (h0 : Came w a0 c0 xs0) (h1 : Came w a1 c1 xs1) (h2 : Came w a2 c2 xs2) :
    Calls Try.prog 4 #[.slice a0 xs0.length c0, .slice a1 xs1.length c1, .slice a2 xs2.length c2, .agg #[.int .u8 j0, .int .u8 j1, .int .u8 j2, .int .u8 j3]] w fun e w' => e = .returned (.bool true) ∧ Below w.heap.size w w' := by
  obtain ⟨i0, hi, hz0, hz1, hz2⟩ := info_parts info5
  have H0 := Lib.hid h0
  have H1 := Lib.hid h1
  have H2 := Lib.hid h2
  clear h0 h1 h2
  generalize e0 : xs0.length = n0
  generalize e1 : xs1.length = n1
  generalize e2 : xs2.length = n2
  have E0 := Lib.hid e0
  have E1 := Lib.hid e1
  have E2 := Lib.hid e2
  clear e0 e1 e2
  have KB := Lib.hid (bytes11 a0 a1 a2 n0 n1 n2 c0 c1 c2 j0 j1 j2 j3 (w.alloc (.cells #[.int .u8 j0, .int .u8 j1, .int .u8 j2, .int .u8 j3] 30)))
  go_enter Try.func4, Try.ntmps4
  go_wp2_with (go_at_call 11; refine Calls.mono KB.out ?_; rintro e w' ⟨⟨bb, rfl⟩, hw⟩; subst hw; refine Hid.out ?_)
  refine Lib.hid ?_
  have hba : Below w.heap.size w ((w.alloc (.cells #[.int .u8 j0, .int .u8 j1, .int .u8 j2, .int .u8 j3] 30)).alloc (.cells #[.int .u8 j0, .int .u8 j1, .int .u8 j2, .int .u8 j3] 30)) := ((Below.refl _ _).alloc (Nat.le_refl _) _).alloc (by simp) _
  have hjc : ∀ k v, #[Value.int .u8 j0, .int .u8 j1, .int .u8 j2, .int .u8 j3][k]? = some v → ((w.alloc (.cells #[.int .u8 j0, .int .u8 j1, .int .u8 j2, .int .u8 j3] 30)).alloc (.cells #[.int .u8 j0, .int .u8 j1, .int .u8 j2, .int .u8 j3] 30)).cell? ⟨w.heap.size, k, none⟩ = some v := fun k v hk => by
    rw [World.cell?_alloc_past _ _ _ (by simp), World.cell?_alloc_at _ _ _ _ rfl]
    exact hk
  have hsz : w.heap.size < ((w.alloc (.cells #[.int .u8 j0, .int .u8 j1, .int .u8 j2, .int .u8 j3] 30)).alloc (.cells #[.int .u8 j0, .int .u8 j1, .int .u8 j2, .int .u8 j3] 30)).heap.size := by simp; omega
  obtain ⟨wj, hwj⟩ : ∃ wj, ((w.alloc (.cells #[.int .u8 j0, .int .u8 j1, .int .u8 j2, .int .u8 j3] 30)).alloc (.cells #[.int .u8 j0, .int .u8 j1, .int .u8 j2, .int .u8 j3] 30)) = wj := ⟨_, rfl⟩
  rw [hwj] at hba hjc hsz ⊢
  have q0 : wj.cell? ⟨w.heap.size, 0, none⟩ = some (.int .u8 j0) := hjc 0 _ rfl
  have q1 : wj.cell? ⟨w.heap.size, 1, none⟩ = some (.int .u8 j1) := hjc 1 _ rfl
  have q2 : wj.cell? ⟨w.heap.size, 2, none⟩ = some (.int .u8 j2) := hjc 2 _ rfl
  have q3 : wj.cell? ⟨w.heap.size, 3, none⟩ = some (.int .u8 j3) := hjc 3 _ rfl
  have QJ := Lib.hid (And.intro q0 (And.intro q1 (And.intro q2 q3)))
  have BJ := Lib.hid hba
  have SJ := Lib.hid hsz
  clear hwj hba hjc hsz q0 q1 q2 q3 KB
  generalize hgj : w.heap.size = gj at QJ SJ ⊢
  have GJ := Lib.hid hgj
  clear hgj
  cases bb with
  | false =>
    go_wp2
    go_ret
    exact ⟨rfl, BJ.out⟩
  | true =>
  by_cases l0 : (262144 : Int) < (n0 : Int)
  · go_wp2
    go_ret
    exact ⟨rfl, BJ.out⟩
  have l0' : n0 ≤ 262144 := by omega
  by_cases l1 : (262144 : Int) < (n1 : Int)
  · go_wp2
    go_ret
    exact ⟨rfl, BJ.out⟩
  have l1' : n1 ≤ 262144 := by omega
  by_cases l2 : (262144 : Int) < (n2 : Int)
  · go_wp2
    go_ret
    exact ⟨rfl, BJ.out⟩
  have l2' : n2 ≤ 262144 := by omega
  cases a1 with
  | none =>
    have hq0 : ∀ w, (binOp .neq 22 (.slice none n1 c1) (.slice none 0 0)).run Try.prog w = .ok (.bool false) w := fun w => run_neq_slice_nil w 22 5 none n1 c1 Try.underlying22
    have HV := Lib.hid (show At wj none xs1 ∧ ((none : Option Addr) = none → xs1 = [] ∧ c1 = 0) ∧ n1 ≤ c1 from by have := H1.out.below BJ.out; have hh := E1.out; exact ⟨this.1, this.2.1, by have := this.2.2; omega⟩)
    clear H1
    obtain ⟨wb, hwb⟩ : ∃ wb, wb = wj := ⟨_, rfl⟩
    have BB := Lib.hid (show Below w.heap.size w wb from by rw [hwb]; exact BJ.out)
    rw [← hwb] at QJ SJ HV ⊢
    clear hwb BJ
    obtain ⟨p, hp⟩ : ∃ p : Nat, (n0 : Int) + (n1 : Int) + 4 = (p : Int) := ⟨n0 + n1 + 4, by omega⟩
    obtain ⟨T, hT⟩ : ∃ T : Nat, (p : Int) + (n2 : Int) = (T : Int) := ⟨p + n2, by omega⟩
    have hpb : p ≤ 786436 := by omega
    have hTb : T ≤ 1048580 := by omega
    have HP := Lib.hid (show n0 + n1 + 4 = p by omega)
    have HT := Lib.hid (show p + n2 = T by omega)
    have K0 := Lib.hid (fun W (h : Below wb.heap.size wb W) => (H0.out.below BB.out).below h)
    have K2 := Lib.hid (fun W (h : Below wb.heap.size wb W) => (H2.out.below BB.out).below h)
    have KV := Lib.hid (fun W (h : Below wb.heap.size wb W) => HV.out.1.below h)
    have KJ := Lib.hid (fun W (h : Below wb.heap.size wb W) => (show W.cell? ⟨gj, 0, none⟩ = some (.int .u8 j0) ∧ W.cell? ⟨gj, 1, none⟩ = some (.int .u8 j1) ∧ W.cell? ⟨gj, 2, none⟩ = some (.int .u8 j2) ∧ W.cell? ⟨gj, 3, none⟩ = some (.int .u8 j3) from ⟨(h.cell (p := ⟨gj, 0, none⟩) SJ.out).trans QJ.out.1, (h.cell (p := ⟨gj, 1, none⟩) SJ.out).trans QJ.out.2.1, (h.cell (p := ⟨gj, 2, none⟩) SJ.out).trans QJ.out.2.2.1, (h.cell (p := ⟨gj, 3, none⟩) SJ.out).trans QJ.out.2.2.2⟩))
    have L0 := Lib.hid (show (bts xs0).length = n0 * 1 by rw [bts_length, E0.out, Nat.mul_one])
    have L1 := Lib.hid (show (bts xs1).length = n1 * 1 by rw [bts_length, E1.out, Nat.mul_one])
    have L2 := Lib.hid (show (bts xs2).length = n2 * 1 by rw [bts_length, E2.out, Nat.mul_one])
    have Z0 := Lib.hid (show a0 = none → n0 = 0 ∧ c0 = 0 from fun e => by have h := H0.out.2.1 e; have h2 := E0.out; rw [h.1] at h2; exact ⟨by simpa using h2.symm, h.2⟩)
    have Z1 := Lib.hid (show (none : Option Addr) = none → n1 = 0 ∧ c1 = 0 from fun e => by have h := HV.out.2.1 e; have h2 := E1.out; rw [h.1] at h2; exact ⟨by simpa using h2.symm, h.2⟩)
    have Z2 := Lib.hid (show a2 = none → n2 = 0 ∧ c2 = 0 from fun e => by have h := H2.out.2.1 e; have h2 := E2.out; rw [h.1] at h2; exact ⟨by simpa using h2.symm, h.2⟩)
    clear H0 H2
    go_wp2_with (at_make; refine wpList_make_own _ rfl _ _ 22 rfl wb.heap.size 5 i0 (.int .u8 0) 1 Try.underlying22 hi hz0 hz1 .i64 .i64 _ T rfl rfl rfl (by rw [hz2]; omega) (by unfold maxLen; omega) (Nat.le_refl _) ?_; intro w1 hown1 hgrow1; refine Hid.out ?_)
    refine Lib.hid ?_
    have hb1 : Below wb.heap.size wb w1 := (Below.refl _ _).grown hgrow1 (Nat.le_refl _) (fun k hk => by cases hk)
    have O1 := Lib.hid (And.intro hown1 hb1)
    clear hown1 hgrow1 hb1
    go_wp2_with (at_builtin; refine wpList_append_fits_any _ rfl _ _ 22 rfl wb.heap.size 5 i0 1 Try.underlying22 hi hz1 wb.heap.size 0 T [] rfl O1.out.1 a0 n0 c0 (bts xs0) rfl L0.out Z0.out (fun ad e => (e ▸ (K0.out w1 O1.out.2).1).add) (bts_one _) (by omega) ?_; intro w2 hown2 hgrow2; refine Hid.out ?_)
    refine Lib.hid ?_
    have hb2 : Below wb.heap.size wb w2 := O1.out.2.grown hgrow2 O1.out.2.size (fun k hk => by cases hk; exact Nat.le_refl _)
    rw [Nat.zero_add, List.nil_append] at hown2
    have O2 := Lib.hid (And.intro hown2 hb2)
    clear hown2 hgrow2 hb2 O1
    go_wp2_with (at_builtin; refine wpList_append_fits_any _ rfl _ _ 22 rfl wb.heap.size 5 i0 1 Try.underlying22 hi hz1 wb.heap.size n0 T (bts xs0) rfl O2.out.1 none n1 c1 (bts xs1) rfl L1.out (by first | exact Z1.out | exact fun _ => Z1.out trivial) (fun ad e => by cases e) (bts_one _) (by omega) ?_; intro w3 hown3 hgrow3; refine Hid.out ?_)
    refine Lib.hid ?_
    have hb3 : Below wb.heap.size wb w3 := O2.out.2.grown hgrow3 O2.out.2.size (fun k hk => by cases hk; exact Nat.le_refl _)
    rw [← bts_append] at hown3
    have O3 := Lib.hid (And.intro hown3 hb3)
    obtain ⟨q0, q1, q2, q3⟩ := KJ.out w3 hb3
    have O3a := Lib.hid (hown3.alloc (.cells #[.int .u8 j0, .int .u8 j1, .int .u8 j2, .int .u8 j3] 5))
    have FJ := Lib.hid (show ∀ (ad : Addr), (some ⟨w3.heap.size, 0, none⟩ : Option Addr) = some ad → ∀ k u, (bts [j0, j1, j2, j3])[k]? = some u → (w3.alloc (.cells #[.int .u8 j0, .int .u8 j1, .int .u8 j2, .int .u8 j3] 5)).cell? (ad.add k) = some u from fun ad e k u hk => by
      obtain rfl := Option.some.inj e
      rw [addr_add, Nat.zero_add, World.cell?_alloc_at _ _ _ _ rfl]
      match k, hk with
      | 0, hk => simpa [bts] using hk
      | 1, hk => simpa [bts] using hk
      | 2, hk => simpa [bts] using hk
      | 3, hk => simpa [bts] using hk)
    clear hown3 hgrow3 hb3 O2
    go_wp2_with (at_builtin; refine wpList_append_fits_any _ rfl _ _ 22 rfl wb.heap.size 5 i0 1 Try.underlying22 hi hz1 wb.heap.size (n0 + n1) T (bts (xs0 ++ xs1)) rfl O3a.out (some ⟨w3.heap.size, 0, none⟩) 4 4 (bts [j0, j1, j2, j3]) rfl rfl (fun e => by cases e) FJ.out (bts_one _) (by omega) ?_; intro w4 hown4 hgrow4; refine Hid.out ?_)
    refine Lib.hid ?_
    have hb4 : Below wb.heap.size wb w4 := (O3.out.2.alloc O3.out.2.size _).grown hgrow4 (by have := O3.out.2.size; simp; omega) (fun k hk => by cases hk; exact Nat.le_refl _)
    rw [← bts_append, HP.out] at hown4
    have O4 := Lib.hid (And.intro hown4 hb4)
    clear hown4 hgrow4 hb4 O3 O3a FJ q0 q1 q2 q3
    rw [HP.out]
    go_wp2_with (at_builtin; refine wpList_append_fits_any _ rfl _ _ 22 rfl wb.heap.size 5 i0 1 Try.underlying22 hi hz1 wb.heap.size p T (bts (xs0 ++ xs1 ++ [j0, j1, j2, j3])) rfl O4.out.1 a2 n2 c2 (bts xs2) rfl L2.out Z2.out (fun ad e => (e ▸ (K2.out w4 O4.out.2).1).add) (bts_one _) (by omega) ?_; intro w5 hown5 hgrow5; refine Hid.out ?_)
    refine Lib.hid ?_
    have hb5 : Below wb.heap.size wb w5 := O4.out.2.grown hgrow5 O4.out.2.size (fun k hk => by cases hk; exact Nat.le_refl _)
    rw [← bts_append, HT.out] at hown5
    rw [HT.out]
    have C12 := Lib.hid (put12 wb.heap.size T T wb.heap.size n0 n1 (xs0 ++ xs1 ++ [j0, j1, j2, j3] ++ xs2) w5 hown5 (by have := HP.out; have := HT.out; omega) (by omega) hb5.size)
    rw [mid_take E0.out E1.out, put_mid E0.out E1.out] at C12
    have B5 := Lib.hid hb5
    clear hown5 hgrow5 hb5 O4
    go_wp2_with (go_at_call 12; refine Calls.mono C12.out ?_; rintro e w6 ⟨rfl, hown6, hb6⟩; refine Hid.out ?_)
    refine Lib.hid ?_
    have hb6' : Below wb.heap.size wb w6 := B5.out.trans hb6
    have O6 := Lib.hid (And.intro hown6 hb6')
    have c8 := with8 none c1 xs1 w6 (KV.out w6 hb6') (by first | exact HV.out.2.1 | exact fun _ => HV.out.2.1 trivial) (by rw [E1.out]; exact HV.out.2.2) (by rw [E1.out]; exact l1')
    rw [E1.out] at c8
    have C8 := Lib.hid c8
    clear c8 hown6 hb6 hb6' C12 B5
    go_wp2_with (go_at_call 8; refine Calls.mono C8.out ?_; rintro e w7 ⟨v7, rfl, hown7, hne7, hb7⟩; refine Hid.out ?_)
    refine Lib.hid ?_
    obtain ⟨g7, c7, rfl, hc7⟩ : ∃ g c, v7 = .slice (some ⟨g, 0, none⟩) (n1 + 4) c ∧ n1 + 4 ≤ c := by
      rcases hown7.2 with ⟨hv, _⟩ | ⟨g, c, cur, hv, _, _, hn, _⟩
      · exact absurd hv hne7
      · exact ⟨g, c, hv, hn⟩
    have hb7w : Below wb.heap.size wb w7 := O6.out.2.trans (hb7.mono O6.out.2.size)
    have AW : At w7 (some ⟨g7, 0, none⟩) (xs1 ++ le (adler xs1)) := own_at hown7
    have AB : At w7 none xs1 := KV.out w7 hb7w
    have ABuf : At w7 (some ⟨wb.heap.size, 0, none⟩) (xs0 ++ xs1 ++ le (adler xs1) ++ xs2) := own_at (own_below O6.out.1 hb7)
    have AW1 : At w7 (some ⟨g7, 0, none⟩) xs1 := by have := AW.take n1; rwa [← E1.out, List.take_left] at this
    have AB0 : At w7 (some ⟨wb.heap.size, 0, none⟩) xs0 := by have := ABuf.take n0; rwa [← E0.out, List.append_assoc, List.append_assoc, List.take_left] at this
    have AB1 : At w7 (some ⟨wb.heap.size, n0, none⟩) (xs1 ++ le (adler xs1)) := by
      have := (ABuf.drop n0).take (n1 + 4)
      rwa [Nat.zero_add, buf_mid E0.out E1.out] at this
    have AB2 : At w7 (some ⟨wb.heap.size, p, none⟩) xs2 := by
      have := ABuf.drop p
      rwa [Nat.zero_add, buf_end E0.out E1.out HP.out] at this
    have hwl : (xs1 ++ le (adler xs1)).length = n1 + 4 := by rw [List.length_append, E1.out]; rfl
    have Q1 := Lib.hid (fun k => zzEqN (some ⟨g7, 0, none⟩) none c7 c1 n1 xs1 (w7.drewN k) AW1 AB (by omega) E1.out)
    have Q2 := Lib.hid (fun k => zzEqN (some ⟨wb.heap.size, 0, none⟩) a0 T c0 n0 xs0 (w7.drewN k) AB0 (K0.out w7 hb7w).1 (by omega) E0.out)
    have Q3 := Lib.hid (fun k => zzEqN (some ⟨wb.heap.size, n0, none⟩) (some ⟨g7, 0, none⟩) (T - n0) c7 (n1 + 4) (xs1 ++ le (adler xs1)) (w7.drewN k) AB1 AW (by omega) hwl)
    have Q6 := Lib.hid (fun (a : Option Addr) (h : At w7 a xs2) k => zzEqN a a2 n2 c2 n2 xs2 (w7.drewN k) h (K2.out w7 hb7w).1 (by omega) E2.out)
    have AZ := Lib.hid AB2
    have AE := Lib.hid (show n2 = 0 → ∀ a, At w7 a xs2 from fun h a => by have := E2.out; rw [h] at this; rw [List.length_eq_zero_iff.1 this]; exact At.nil)
    have BF := Lib.hid (show ∀ k, Below w.heap.size w (w7.drewN k) from fun k => below_drewN (BB.out.trans (hb7w.mono BB.out.size)) k)
    clear hown7 hne7 hb7 hb7w AW AB ABuf AW1 AB0 AB1 AB2 hwl C8 O6 K0 K2 KV KJ L0 L1 L2 Z0 Z1 Z2 HV QJ SJ
    have i1 : (n1 : Int) ≤ (c7 : Int) := by omega
    have i2 : (n0 : Int) ≤ (T : Int) := by omega
    have i3 : (n0 : Int) ≤ (p : Int) := by omega
    have i4 : (p : Int) ≤ (T : Int) := by omega
    have i5 : p - n0 = n1 + 4 := by omega
    have i6 : T - p = n2 := by omega
    have i7 : ¬ T = n0 := by omega
    have hz : w7 = w7.drewN 0 := rfl
    rw [hz]
    clear hz
    generalize wb.heap.size = gB at *
    go_wp2_with (go_at_call 9; refine Calls.mono (Q1.out 0) ?_; rintro e w8 ⟨rfl, k1, rfl⟩; refine Hid.out ?_)
    refine Lib.hid ?_
    go_wp2_with (go_at_call 9; refine Calls.mono (Q2.out k1) ?_; rintro e w9 ⟨rfl, k2, rfl⟩; refine Hid.out ?_)
    refine Lib.hid ?_
    go_wp2_with (go_at_call 9; refine Calls.mono (Q3.out (k1 + k2)) ?_; rintro e w10 ⟨rfl, k3, rfl⟩; refine Hid.out ?_)
    refine Lib.hid ?_
    generalize k1 + k2 + k3 = k4
    go_wp2_with (go_at_call 9; refine Calls.mono (Q6.out _ (by first | exact AZ.out | exact AE.out (by omega) _) k4) ?_; rintro e w11 ⟨rfl, k5, rfl⟩; refine Hid.out ?_)
    all_goals
      refine Lib.hid ?_
      go_wp2
      go_ret
      exact ⟨rfl, BF.out _⟩
  | some ad =>
    have hq0 : ∀ w, (binOp .neq 22 (.slice (some ad) n1 c1) (.slice none 0 0)).run Try.prog w = .ok (.bool true) w := fun w => run_neq_slice_nil w 22 5 (some ad) n1 c1 Try.underlying22
    have hbl : (bts xs1).length = n1 := by rw [bts_length]; exact E1.out
    have HL := Lib.hid hbl
    clear hbl
    go_wp2_with (at_make; refine wpList_make_full _ rfl _ _ 22 rfl wj.heap.size 5 i0 (.int .u8 0) 1 Try.underlying22 hi hz0 hz1 .i64 .i64 _ _ n1 rfl rfl rfl rfl (by rw [hz2]; omega) (by unfold maxLen; omega) (Nat.le_refl _) ?_; intro w1 hown1 hgrow1; refine Hid.out ?_)
    refine Lib.hid ?_
    obtain ⟨cur, hh, hcz⟩ := made_block hown1
    have hb1 : Below wj.heap.size wj w1 := (Below.refl _ _).grown hgrow1 (Nat.le_refl _) (fun k hk => by cases hk)
    have HB := Lib.hid hb1
    have F1 := Lib.hid (show w1.heap[wj.heap.size]? = some (.cells cur.toList.toArray 5 (0, 0)) by simpa using hh)
    have F2 := Lib.hid (show (bts xs1).length = Nat.min n1 n1 by rw [HL.out]; exact (Nat.min_self _).symm)
    have F3 := Lib.hid (show ∀ j v, (bts xs1)[j]? = some v → w1.cell? (ad.add j) = some v from ((H1.out.below BJ.out).below hb1).1.add)
    have F4 := Lib.hid (show 0 + (bts xs1).length ≤ cur.toList.length by rw [HL.out]; simp [hcz])
    clear hown1 hgrow1 hh hb1
    go_wp2_with (refine wpList_copy_splice rfl _ _ 22 22 rfl 5 Try.underlying22 size5 _ _ _ _ _ _ rfl rfl wj.heap.size 0 cur.toList 5 F1.out (bts xs1) F2.out (fun _ => ⟨rfl, ad, rfl, F3.out⟩) F4.out (bts_one xs1) wj.heap.size wj HB.out (Nat.le_refl _) ?_; intro wb hh2 hb2; refine Hid.out ?_)
    refine Lib.hid ?_
    have hob : wb.ownsRow wj.heap.size 5 1 (.slice (some ⟨wj.heap.size, 0, none⟩) n1 n1) n1 (bts xs1) := by
      refine ⟨by rw [HL.out]; simp, Or.inr ⟨wj.heap.size, n1, _, rfl, Nat.le_refl _, hh2.out, Nat.le_refl _, by unfold maxLen; omega, ?_, ?_⟩⟩
      · simp [splice, HL.out, hcz]
      · simp [splice, HL.out]
    have HV := Lib.hid (show At wb (some ⟨wj.heap.size, 0, none⟩) xs1 ∧ ((some ⟨wj.heap.size, 0, none⟩ : Option Addr) = none → xs1 = [] ∧ n1 = 0) ∧ n1 ≤ n1 from ⟨own_at hob, fun e => (by cases e), Nat.le_refl _⟩)
    have BB := Lib.hid (show Below w.heap.size w wb from BJ.out.trans (hb2.mono BJ.out.size))
    have QB : wb.cell? ⟨gj, 0, none⟩ = some (.int .u8 j0) ∧ wb.cell? ⟨gj, 1, none⟩ = some (.int .u8 j1) ∧ wb.cell? ⟨gj, 2, none⟩ = some (.int .u8 j2) ∧ wb.cell? ⟨gj, 3, none⟩ = some (.int .u8 j3) :=
      ⟨(hb2.cell (p := ⟨gj, 0, none⟩) SJ.out).trans QJ.out.1, (hb2.cell (p := ⟨gj, 1, none⟩) SJ.out).trans QJ.out.2.1, (hb2.cell (p := ⟨gj, 2, none⟩) SJ.out).trans QJ.out.2.2.1, (hb2.cell (p := ⟨gj, 3, none⟩) SJ.out).trans QJ.out.2.2.2⟩
    have hsb : gj < wb.heap.size := Nat.lt_of_lt_of_le SJ.out hb2.size
    clear QJ SJ
    have QJ := Lib.hid QB
    have SJ := Lib.hid hsb
    clear QB hsb hob hh2 hb2 F1 F2 F3 F4 HB HL BJ H1
    generalize wj.heap.size = gb at HV ⊢
    obtain ⟨p, hp⟩ : ∃ p : Nat, (n0 : Int) + (n1 : Int) + 4 = (p : Int) := ⟨n0 + n1 + 4, by omega⟩
    obtain ⟨T, hT⟩ : ∃ T : Nat, (p : Int) + (n2 : Int) = (T : Int) := ⟨p + n2, by omega⟩
    have hpb : p ≤ 786436 := by omega
    have hTb : T ≤ 1048580 := by omega
    have HP := Lib.hid (show n0 + n1 + 4 = p by omega)
    have HT := Lib.hid (show p + n2 = T by omega)
    have K0 := Lib.hid (fun W (h : Below wb.heap.size wb W) => (H0.out.below BB.out).below h)
    have K2 := Lib.hid (fun W (h : Below wb.heap.size wb W) => (H2.out.below BB.out).below h)
    have KV := Lib.hid (fun W (h : Below wb.heap.size wb W) => HV.out.1.below h)
    have KJ := Lib.hid (fun W (h : Below wb.heap.size wb W) => (show W.cell? ⟨gj, 0, none⟩ = some (.int .u8 j0) ∧ W.cell? ⟨gj, 1, none⟩ = some (.int .u8 j1) ∧ W.cell? ⟨gj, 2, none⟩ = some (.int .u8 j2) ∧ W.cell? ⟨gj, 3, none⟩ = some (.int .u8 j3) from ⟨(h.cell (p := ⟨gj, 0, none⟩) SJ.out).trans QJ.out.1, (h.cell (p := ⟨gj, 1, none⟩) SJ.out).trans QJ.out.2.1, (h.cell (p := ⟨gj, 2, none⟩) SJ.out).trans QJ.out.2.2.1, (h.cell (p := ⟨gj, 3, none⟩) SJ.out).trans QJ.out.2.2.2⟩))
    have L0 := Lib.hid (show (bts xs0).length = n0 * 1 by rw [bts_length, E0.out, Nat.mul_one])
    have L1 := Lib.hid (show (bts xs1).length = n1 * 1 by rw [bts_length, E1.out, Nat.mul_one])
    have L2 := Lib.hid (show (bts xs2).length = n2 * 1 by rw [bts_length, E2.out, Nat.mul_one])
    have Z0 := Lib.hid (show a0 = none → n0 = 0 ∧ c0 = 0 from fun e => by have h := H0.out.2.1 e; have h2 := E0.out; rw [h.1] at h2; exact ⟨by simpa using h2.symm, h.2⟩)
    have Z1 := Lib.hid (show ((some ⟨gb, 0, none⟩) : Option Addr) = none → n1 = 0 ∧ n1 = 0 from fun e => by have h := HV.out.2.1 e; have h2 := E1.out; rw [h.1] at h2; exact ⟨by simpa using h2.symm, h.2⟩)
    have Z2 := Lib.hid (show a2 = none → n2 = 0 ∧ c2 = 0 from fun e => by have h := H2.out.2.1 e; have h2 := E2.out; rw [h.1] at h2; exact ⟨by simpa using h2.symm, h.2⟩)
    clear H0 H2
    go_wp2_with (at_make; refine wpList_make_own _ rfl _ _ 22 rfl wb.heap.size 5 i0 (.int .u8 0) 1 Try.underlying22 hi hz0 hz1 .i64 .i64 _ T rfl rfl rfl (by rw [hz2]; omega) (by unfold maxLen; omega) (Nat.le_refl _) ?_; intro w1 hown1 hgrow1; refine Hid.out ?_)
    refine Lib.hid ?_
    have hb1 : Below wb.heap.size wb w1 := (Below.refl _ _).grown hgrow1 (Nat.le_refl _) (fun k hk => by cases hk)
    have O1 := Lib.hid (And.intro hown1 hb1)
    clear hown1 hgrow1 hb1
    go_wp2_with (at_builtin; refine wpList_append_fits_any _ rfl _ _ 22 rfl wb.heap.size 5 i0 1 Try.underlying22 hi hz1 wb.heap.size 0 T [] rfl O1.out.1 a0 n0 c0 (bts xs0) rfl L0.out Z0.out (fun ad e => (e ▸ (K0.out w1 O1.out.2).1).add) (bts_one _) (by omega) ?_; intro w2 hown2 hgrow2; refine Hid.out ?_)
    refine Lib.hid ?_
    have hb2 : Below wb.heap.size wb w2 := O1.out.2.grown hgrow2 O1.out.2.size (fun k hk => by cases hk; exact Nat.le_refl _)
    rw [Nat.zero_add, List.nil_append] at hown2
    have O2 := Lib.hid (And.intro hown2 hb2)
    clear hown2 hgrow2 hb2 O1
    go_wp2_with (at_builtin; refine wpList_append_fits_any _ rfl _ _ 22 rfl wb.heap.size 5 i0 1 Try.underlying22 hi hz1 wb.heap.size n0 T (bts xs0) rfl O2.out.1 (some ⟨gb, 0, none⟩) n1 n1 (bts xs1) rfl L1.out (by first | exact Z1.out | exact fun _ => Z1.out trivial) (fun ad e => (e ▸ (KV.out w2 O2.out.2)).add) (bts_one _) (by omega) ?_; intro w3 hown3 hgrow3; refine Hid.out ?_)
    refine Lib.hid ?_
    have hb3 : Below wb.heap.size wb w3 := O2.out.2.grown hgrow3 O2.out.2.size (fun k hk => by cases hk; exact Nat.le_refl _)
    rw [← bts_append] at hown3
    have O3 := Lib.hid (And.intro hown3 hb3)
    obtain ⟨q0, q1, q2, q3⟩ := KJ.out w3 hb3
    have O3a := Lib.hid (hown3.alloc (.cells #[.int .u8 j0, .int .u8 j1, .int .u8 j2, .int .u8 j3] 5))
    have FJ := Lib.hid (show ∀ (ad : Addr), (some ⟨w3.heap.size, 0, none⟩ : Option Addr) = some ad → ∀ k u, (bts [j0, j1, j2, j3])[k]? = some u → (w3.alloc (.cells #[.int .u8 j0, .int .u8 j1, .int .u8 j2, .int .u8 j3] 5)).cell? (ad.add k) = some u from fun ad e k u hk => by
      obtain rfl := Option.some.inj e
      rw [addr_add, Nat.zero_add, World.cell?_alloc_at _ _ _ _ rfl]
      match k, hk with
      | 0, hk => simpa [bts] using hk
      | 1, hk => simpa [bts] using hk
      | 2, hk => simpa [bts] using hk
      | 3, hk => simpa [bts] using hk)
    clear hown3 hgrow3 hb3 O2
    go_wp2_with (at_builtin; refine wpList_append_fits_any _ rfl _ _ 22 rfl wb.heap.size 5 i0 1 Try.underlying22 hi hz1 wb.heap.size (n0 + n1) T (bts (xs0 ++ xs1)) rfl O3a.out (some ⟨w3.heap.size, 0, none⟩) 4 4 (bts [j0, j1, j2, j3]) rfl rfl (fun e => by cases e) FJ.out (bts_one _) (by omega) ?_; intro w4 hown4 hgrow4; refine Hid.out ?_)
    refine Lib.hid ?_
    have hb4 : Below wb.heap.size wb w4 := (O3.out.2.alloc O3.out.2.size _).grown hgrow4 (by have := O3.out.2.size; simp; omega) (fun k hk => by cases hk; exact Nat.le_refl _)
    rw [← bts_append, HP.out] at hown4
    have O4 := Lib.hid (And.intro hown4 hb4)
    clear hown4 hgrow4 hb4 O3 O3a FJ q0 q1 q2 q3
    rw [HP.out]
    go_wp2_with (at_builtin; refine wpList_append_fits_any _ rfl _ _ 22 rfl wb.heap.size 5 i0 1 Try.underlying22 hi hz1 wb.heap.size p T (bts (xs0 ++ xs1 ++ [j0, j1, j2, j3])) rfl O4.out.1 a2 n2 c2 (bts xs2) rfl L2.out Z2.out (fun ad e => (e ▸ (K2.out w4 O4.out.2).1).add) (bts_one _) (by omega) ?_; intro w5 hown5 hgrow5; refine Hid.out ?_)
    refine Lib.hid ?_
    have hb5 : Below wb.heap.size wb w5 := O4.out.2.grown hgrow5 O4.out.2.size (fun k hk => by cases hk; exact Nat.le_refl _)
    rw [← bts_append, HT.out] at hown5
    rw [HT.out]
    have C12 := Lib.hid (put12 wb.heap.size T T wb.heap.size n0 n1 (xs0 ++ xs1 ++ [j0, j1, j2, j3] ++ xs2) w5 hown5 (by have := HP.out; have := HT.out; omega) (by omega) hb5.size)
    rw [mid_take E0.out E1.out, put_mid E0.out E1.out] at C12
    have B5 := Lib.hid hb5
    clear hown5 hgrow5 hb5 O4
    go_wp2_with (go_at_call 12; refine Calls.mono C12.out ?_; rintro e w6 ⟨rfl, hown6, hb6⟩; refine Hid.out ?_)
    refine Lib.hid ?_
    have hb6' : Below wb.heap.size wb w6 := B5.out.trans hb6
    have O6 := Lib.hid (And.intro hown6 hb6')
    have c8 := with8 (some ⟨gb, 0, none⟩) n1 xs1 w6 (KV.out w6 hb6') (by first | exact HV.out.2.1 | exact fun _ => HV.out.2.1 trivial) (by rw [E1.out]; exact HV.out.2.2) (by rw [E1.out]; exact l1')
    rw [E1.out] at c8
    have C8 := Lib.hid c8
    clear c8 hown6 hb6 hb6' C12 B5
    go_wp2_with (go_at_call 8; refine Calls.mono C8.out ?_; rintro e w7 ⟨v7, rfl, hown7, hne7, hb7⟩; refine Hid.out ?_)
    refine Lib.hid ?_
    obtain ⟨g7, c7, rfl, hc7⟩ : ∃ g c, v7 = .slice (some ⟨g, 0, none⟩) (n1 + 4) c ∧ n1 + 4 ≤ c := by
      rcases hown7.2 with ⟨hv, _⟩ | ⟨g, c, cur, hv, _, _, hn, _⟩
      · exact absurd hv hne7
      · exact ⟨g, c, hv, hn⟩
    have hb7w : Below wb.heap.size wb w7 := O6.out.2.trans (hb7.mono O6.out.2.size)
    have AW : At w7 (some ⟨g7, 0, none⟩) (xs1 ++ le (adler xs1)) := own_at hown7
    have AB : At w7 (some ⟨gb, 0, none⟩) xs1 := KV.out w7 hb7w
    have ABuf : At w7 (some ⟨wb.heap.size, 0, none⟩) (xs0 ++ xs1 ++ le (adler xs1) ++ xs2) := own_at (own_below O6.out.1 hb7)
    have AW1 : At w7 (some ⟨g7, 0, none⟩) xs1 := by have := AW.take n1; rwa [← E1.out, List.take_left] at this
    have AB0 : At w7 (some ⟨wb.heap.size, 0, none⟩) xs0 := by have := ABuf.take n0; rwa [← E0.out, List.append_assoc, List.append_assoc, List.take_left] at this
    have AB1 : At w7 (some ⟨wb.heap.size, n0, none⟩) (xs1 ++ le (adler xs1)) := by
      have := (ABuf.drop n0).take (n1 + 4)
      rwa [Nat.zero_add, buf_mid E0.out E1.out] at this
    have AB2 : At w7 (some ⟨wb.heap.size, p, none⟩) xs2 := by
      have := ABuf.drop p
      rwa [Nat.zero_add, buf_end E0.out E1.out HP.out] at this
    have hwl : (xs1 ++ le (adler xs1)).length = n1 + 4 := by rw [List.length_append, E1.out]; rfl
    have Q1 := Lib.hid (fun k => zzEqN (some ⟨g7, 0, none⟩) (some ⟨gb, 0, none⟩) c7 n1 n1 xs1 (w7.drewN k) AW1 AB (by omega) E1.out)
    have Q2 := Lib.hid (fun k => zzEqN (some ⟨wb.heap.size, 0, none⟩) a0 T c0 n0 xs0 (w7.drewN k) AB0 (K0.out w7 hb7w).1 (by omega) E0.out)
    have Q3 := Lib.hid (fun k => zzEqN (some ⟨wb.heap.size, n0, none⟩) (some ⟨g7, 0, none⟩) (T - n0) c7 (n1 + 4) (xs1 ++ le (adler xs1)) (w7.drewN k) AB1 AW (by omega) hwl)
    have Q6 := Lib.hid (fun (a : Option Addr) (h : At w7 a xs2) k => zzEqN a a2 n2 c2 n2 xs2 (w7.drewN k) h (K2.out w7 hb7w).1 (by omega) E2.out)
    have AZ := Lib.hid AB2
    have AE := Lib.hid (show n2 = 0 → ∀ a, At w7 a xs2 from fun h a => by have := E2.out; rw [h] at this; rw [List.length_eq_zero_iff.1 this]; exact At.nil)
    have BF := Lib.hid (show ∀ k, Below w.heap.size w (w7.drewN k) from fun k => below_drewN (BB.out.trans (hb7w.mono BB.out.size)) k)
    clear hown7 hne7 hb7 hb7w AW AB ABuf AW1 AB0 AB1 AB2 hwl C8 O6 K0 K2 KV KJ L0 L1 L2 Z0 Z1 Z2 HV QJ SJ
    have i1 : (n1 : Int) ≤ (c7 : Int) := by omega
    have i2 : (n0 : Int) ≤ (T : Int) := by omega
    have i3 : (n0 : Int) ≤ (p : Int) := by omega
    have i4 : (p : Int) ≤ (T : Int) := by omega
    have i5 : p - n0 = n1 + 4 := by omega
    have i6 : T - p = n2 := by omega
    have i7 : ¬ T = n0 := by omega
    have hz : w7 = w7.drewN 0 := rfl
    rw [hz]
    clear hz
    generalize wb.heap.size = gB at *
    go_wp2_with (go_at_call 9; refine Calls.mono (Q1.out 0) ?_; rintro e w8 ⟨rfl, k1, rfl⟩; refine Hid.out ?_)
    refine Lib.hid ?_
    go_wp2_with (go_at_call 9; refine Calls.mono (Q2.out k1) ?_; rintro e w9 ⟨rfl, k2, rfl⟩; refine Hid.out ?_)
    refine Lib.hid ?_
    go_wp2_with (go_at_call 9; refine Calls.mono (Q3.out (k1 + k2)) ?_; rintro e w10 ⟨rfl, k3, rfl⟩; refine Hid.out ?_)
    refine Lib.hid ?_
    generalize k1 + k2 + k3 = k4
    go_wp2_with (go_at_call 9; refine Calls.mono (Q6.out _ (by first | exact AZ.out | exact AE.out (by omega) _) k4) ?_; rintro e w11 ⟨rfl, k5, rfl⟩; refine Hid.out ?_)
    all_goals
      refine Lib.hid ?_
      go_wp2
      go_ret
      exact ⟨rfl, BF.out _⟩
end Go.Proofs.Qxb6608607a
