/- The contracts of the library, laid at this program by the tool of the kit, in plain words. -/
import Derived.Ground.PaProg
import Derived.Shelf.Hex.Tagged
import Derived.Shelf.LaysM
import Derived.Shelf.Strconv.AppendInt10
import Derived.Shelf.Hex.Lens
import Derived.Shelf.Spec.SlicesGrow
import Derived.Ground.Names8Prog
import Derived.Test.Qxb6614863aDoorProg
import Derived.Test.Qxb6614863aDoorRows
namespace Go.Proofs
open Go.Shelf
def Qxb6614863aDoor.powName : String := Qxb6614863aDoor.Rows.fnGTIDStringAndAppendToAgreeWithTextRow.named.headD ""
def Tryd.laysPa40_ren : Go.Shelf.Ren := ⟨fun | 40 => 24 | n => n, fun | 30 => 27 | 3 => 3 | 0 => 0 | 5 => 5 | 46 => 41 | 9 => 9 | n => n, fun | n => n⟩
theorem Tryd.laysPa40 : Go.Proofs.Lays.p40 Tryd.prog Tryd.laysPa40_ren := {
  mixed := by kernel_rfl
  f40 := Tryd.func24.trans (congrArg some (by kernel_rfl))
  t0 := Tryd.underlying0
  a0 := Tryd.isAgg0
  z0 := Tryd.sizeOf0
  v0 := Tryd.zeroValue0
  t3 := Tryd.underlying3
  a3 := Tryd.isAgg3
  z3 := Tryd.sizeOf3
  v3 := Tryd.zeroValue3
  t5 := Tryd.underlying5
  a5 := Tryd.isAgg5
  z5 := Tryd.sizeOf5
  v5 := Tryd.zeroValue5
  t9 := Tryd.underlying9
  a9 := Tryd.isAgg9
  z9 := Tryd.sizeOf9
  v9 := Tryd.zeroValue9
  t30 := Tryd.underlying27
  a30 := Tryd.isAgg27
  z30 := Tryd.sizeOf27
  v30 := Tryd.zeroValue27
  t46 := Tryd.underlying41
  a46 := Tryd.isAgg41
  z46 := Tryd.sizeOf41
  v46 := Tryd.zeroValue41 }
open Go.RowKit Go.Lib in
theorem Tryd.hex_Encode_tag (T : TypeId) (bd od nd cd N : Nat) (f : Nat → Value) (bs os n cs : Nat) (xs : List Int) (w : World) (hx : xs.length = n) (hr : ∀ i, i < n → 0 ≤ xs.getD i 0 ∧ xs.getD i 0 < 256) (hsrc : ∀ i, i < n → w.cell? ⟨bs, os + i, none⟩ = some (.int .u8 (xs.getD i 0))) (hrow : w.rowIs bd T N f) (hfit : od + nd ≤ N) (hlen : 2 * n ≤ nd) (hne : bd ≠ bs) (hbig : n ≤ 4611686018427387903) :
    Calls Tryd.prog 24 #[.slice (some ⟨bd, od, none⟩) nd cd, .slice (some ⟨bs, os, none⟩) n cs] w fun e w' => e = .returned (.int .i64 ((n : Int) * 2)) ∧ w'.rowIs bd T N (Hx.row f od (Lib.bytesOf xs) n) ∧ w.grownBy w' (some bd) := Any.hex_Encode_tag Tryd.laysPa40 T bd od nd cd N f bs os n cs xs w hx hr hsrc hrow hfit hlen hne hbig
def Tryd.laysM288_ren : Go.Shelf.Ren := ⟨fun | 288 => 21 | 283 => 25 | 284 => 26 | 285 => 27 | 286 => 28 | 129 => 30 | 317 => 29 | 318 => 31 | 319 => 32 | 320 => 33 | 337 => 34 | 338 => 35 | n => n, fun | 37 => 27 | 53 => 26 | 3 => 3 | 4 => 4 | 9 => 9 | 171 => 50 | 0 => 0 | 173 => 53 | 212 => 56 | 51 => 57 | 5 => 5 | 20 => 20 | 213 => 58 | 46 => 41 | 232 => 62 | 233 => 63 | n => n, fun | 17 => 1 | 18 => 2 | 19 => 3 | n => n⟩
theorem Tryd.laysM288 : Go.Proofs.LaysM.n288 Tryd.prog Tryd.laysM288_ren := {
  mixed := by kernel_rfl
  f129 := Tryd.func30.trans (congrArg some (by kernel_rfl))
  f283 := Tryd.func25.trans (congrArg some (by kernel_rfl))
  f284 := Tryd.func26.trans (congrArg some (by kernel_rfl))
  f285 := Tryd.func27.trans (congrArg some (by kernel_rfl))
  f286 := Tryd.func28.trans (congrArg some (by kernel_rfl))
  f288 := Tryd.func21.trans (congrArg some (by kernel_rfl))
  f317 := Tryd.func29.trans (congrArg some (by kernel_rfl))
  f318 := Tryd.func31.trans (congrArg some (by kernel_rfl))
  f319 := Tryd.func32.trans (congrArg some (by kernel_rfl))
  f320 := Tryd.func33.trans (congrArg some (by kernel_rfl))
  f337 := Tryd.func34.trans (congrArg some (by kernel_rfl))
  f338 := Tryd.func35.trans (congrArg some (by kernel_rfl))
  t0 := Tryd.underlying0
  a0 := Tryd.isAgg0
  z0 := Tryd.sizeOf0
  v0 := Tryd.zeroValue0
  t3 := Tryd.underlying3
  a3 := Tryd.isAgg3
  z3 := Tryd.sizeOf3
  v3 := Tryd.zeroValue3
  t4 := Tryd.underlying4
  a4 := Tryd.isAgg4
  z4 := Tryd.sizeOf4
  v4 := Tryd.zeroValue4
  t5 := Tryd.underlying5
  a5 := Tryd.isAgg5
  z5 := Tryd.sizeOf5
  v5 := Tryd.zeroValue5
  t9 := Tryd.underlying9
  a9 := Tryd.isAgg9
  z9 := Tryd.sizeOf9
  v9 := Tryd.zeroValue9
  t20 := Tryd.underlying20
  a20 := Tryd.isAgg20
  z20 := Tryd.sizeOf20
  v20 := Tryd.zeroValue20
  t37 := Tryd.underlying27
  a37 := Tryd.isAgg27
  z37 := Tryd.sizeOf27
  v37 := Tryd.zeroValue27
  t46 := Tryd.underlying41
  a46 := Tryd.isAgg41
  z46 := Tryd.sizeOf41
  v46 := Tryd.zeroValue41
  t51 := Tryd.underlying57
  a51 := Tryd.isAgg57
  z51 := Tryd.sizeOf57
  v51 := Tryd.zeroValue57
  t53 := Tryd.underlying26
  a53 := Tryd.isAgg26
  z53 := Tryd.sizeOf26
  v53 := Tryd.zeroValue26
  t171 := Tryd.underlying50
  a171 := Tryd.isAgg50
  z171 := Tryd.sizeOf50
  v171 := Tryd.zeroValue50
  t173 := Tryd.underlying53
  a173 := Tryd.isAgg53
  z173 := Tryd.sizeOf53
  v173 := Tryd.zeroValue53
  t212 := Tryd.underlying56
  a212 := Tryd.isAgg56
  z212 := Tryd.sizeOf56
  v212 := Tryd.zeroValue56
  t213 := Tryd.underlying58
  a213 := Tryd.isAgg58
  z213 := Tryd.sizeOf58
  t232 := Tryd.underlying62
  a232 := Tryd.isAgg62
  z232 := Tryd.sizeOf62
  v232 := Tryd.zeroValue62
  t233 := Tryd.underlying63
  a233 := Tryd.isAgg63
  z233 := Tryd.sizeOf63
  v233 := Tryd.zeroValue63
  g17 := by kernel_rfl
  g18 := by kernel_rfl
  g19 := by kernel_rfl
  i0 := by kernel_rfl
  i3 := by kernel_rfl
  i4 := by kernel_rfl
  i5 := by kernel_rfl
  i9 := by kernel_rfl
  i20 := by kernel_rfl
  i37 := by kernel_rfl
  i46 := by kernel_rfl
  i51 := by kernel_rfl
  i53 := by kernel_rfl
  i171 := by kernel_rfl
  i173 := by kernel_rfl
  i212 := by kernel_rfl
  i232 := by kernel_rfl
  i233 := by kernel_rfl
  m17 := by kernel_rfl
  m18 := by kernel_rfl
  m19 := by kernel_rfl }
open Go.RowKit Go.Sort Go.Lib in
theorem Tryd.internal_strconv_AppendUint_10 (B n u : Nat) (hu64 : u < 18446744073709551616) (sv : Value) (xs : List Value) (w : World) (hown : w.ownsRow B 5 1 sv n xs) (hBw : B ≤ w.heap.size) (hlim : n + 20 ≤ 140737488355328) (htab : Lib.TabIs Tryd.prog w Qxb6614863aDoor.powName .u64 Lib.pow10Tab) :
    Calls Tryd.prog 21 #[sv, .int .u64 u, .int .i64 10] w fun e w' => ∃ v', e = .returned v' ∧ w'.ownsRow B 5 1 v' (n + (Lib.decDigits u).length) (xs ++ Lib.byteCells (Lib.decDigits u)) ∧ Below B w w' ∧ Lib.OthersKept 5 none w w' := Any.internal_strconv_AppendUint_10 Tryd.laysM288 B n u hu64 sv xs w hown hBw hlim htab
def Tryd.laysPa41_ren : Go.Shelf.Ren := ⟨fun | 41 => 22 | n => n, fun | 3 => 3 | n => n, fun | n => n⟩
theorem Tryd.laysPa41 : Go.Proofs.Lays.p41 Tryd.prog Tryd.laysPa41_ren := {
  mixed := by kernel_rfl
  f41 := Tryd.func22.trans (congrArg some (by kernel_rfl))
  t3 := Tryd.underlying3
  a3 := Tryd.isAgg3
  z3 := Tryd.sizeOf3
  v3 := Tryd.zeroValue3 }
open Go.RowKit Go.Lib in
theorem Tryd.hex_EncodedLen (n : Int) (h0 : 0 ≤ n) (h1 : n < 4611686018427387904) (w : World) :
    Calls Tryd.prog 22 #[.int .i64 n] w fun e w' => e = .returned (.int .i64 (n * 2)) ∧ w' = w := Any.hex_EncodedLen Tryd.laysPa41 n h0 h1 w
def Tryd.growB_ren : Go.Shelf.Ren := ⟨fun | 4 => 23 | n => n, fun | 22 => 27 | 25 => 5 | 3 => 3 | 4 => 4 | 9 => 9 | 20 => 20 | 0 => 0 | n => n, fun | n => n⟩
theorem Tryd.growB : Go.Proofs.Lays8.n4 Tryd.prog Tryd.growB_ren := {
  mixed := by kernel_rfl
  f4 := ⟨Tryd.f23.name, by decide, Tryd.func23.trans (congrArg some (by kernel_rfl))⟩
  t0 := Tryd.underlying0
  a0 := Tryd.isAgg0
  z0 := Tryd.sizeOf0
  v0 := Tryd.zeroValue0
  t3 := Tryd.underlying3
  a3 := Tryd.isAgg3
  z3 := Tryd.sizeOf3
  v3 := Tryd.zeroValue3
  t4 := Tryd.underlying4
  a4 := Tryd.isAgg4
  z4 := Tryd.sizeOf4
  v4 := Tryd.zeroValue4
  t9 := Tryd.underlying9
  a9 := Tryd.isAgg9
  z9 := Tryd.sizeOf9
  v9 := Tryd.zeroValue9
  t20 := Tryd.underlying20
  a20 := Tryd.isAgg20
  z20 := Tryd.sizeOf20
  v20 := Tryd.zeroValue20
  t22 := Tryd.underlying27
  a22 := Tryd.isAgg27
  z22 := Tryd.sizeOf27
  v22 := Tryd.zeroValue27 }
end Go.Proofs
