/-
  THE SHELF's CONTRACTS AT THIS PROGRAM, IN PLAIN WORDS (laid by the kit's lay-shelf and lay-plain for this program).
-/
import Derived.Shelf.Hex.Tagged
import Derived.Shelf.Strconv.AppendInt10
import Derived.Shelf.Hex.Lens
import Derived.Shelf.Spec.SlicesGrow
import Derived.Test.YbulkaqwaDoorRows
namespace Go.Proofs.YbulkaqwaDoor
open Go.Shelf
/-- The table's name, off the row. -/
def nmP : String := Rows.lawS2119CLineRow.named.getD 0 ""
def Ybad.laysPa40_ren : Go.Shelf.Ren := ⟨fun | 40 => 28 | n => n, fun | 30 => 22 | 3 => 3 | 0 => 0 | 5 => 5 | 46 => 50 | 9 => 9 | n => n, fun | n => n⟩
theorem Ybad.laysPa40 : Go.Proofs.Lays.p40 Ybad.prog Ybad.laysPa40_ren := {
  mixed := by kernel_rfl
  f40 := Ybad.func28.trans (congrArg some (by kernel_rfl))
  t0 := Ybad.underlying0
  a0 := Ybad.isAgg0
  z0 := Ybad.sizeOf0
  v0 := Ybad.zeroValue0
  t3 := Ybad.underlying3
  a3 := Ybad.isAgg3
  z3 := Ybad.sizeOf3
  v3 := Ybad.zeroValue3
  t5 := Ybad.underlying5
  a5 := Ybad.isAgg5
  z5 := Ybad.sizeOf5
  v5 := Ybad.zeroValue5
  t9 := Ybad.underlying9
  a9 := Ybad.isAgg9
  z9 := Ybad.sizeOf9
  v9 := Ybad.zeroValue9
  t30 := Ybad.underlying22
  a30 := Ybad.isAgg22
  z30 := Ybad.sizeOf22
  v30 := Ybad.zeroValue22
  t46 := Ybad.underlying50
  a46 := Ybad.isAgg50
  z46 := Ybad.sizeOf50
  v46 := Ybad.zeroValue50 }
open Go.RowKit Go.Lib in
theorem Ybad.hex_Encode_tag (T : TypeId) (bd od nd cd N : Nat) (f : Nat → Value) (bs os n cs : Nat) (xs : List Int) (w : World) (hx : xs.length = n) (hr : ∀ i, i < n → 0 ≤ xs.getD i 0 ∧ xs.getD i 0 < 256) (hsrc : ∀ i, i < n → w.cell? ⟨bs, os + i, none⟩ = some (.int .u8 (xs.getD i 0))) (hrow : w.rowIs bd T N f) (hfit : od + nd ≤ N) (hlen : 2 * n ≤ nd) (hne : bd ≠ bs) (hbig : n ≤ 4611686018427387903) :
    Calls Ybad.prog 28 #[.slice (some ⟨bd, od, none⟩) nd cd, .slice (some ⟨bs, os, none⟩) n cs] w fun e w' => e = .returned (.int .i64 ((n : Int) * 2)) ∧ w'.rowIs bd T N (Hx.row f od (Lib.bytesOf xs) n) ∧ w.grownBy w' (some bd) := Any.hex_Encode_tag Ybad.laysPa40 T bd od nd cd N f bs os n cs xs w hx hr hsrc hrow hfit hlen hne hbig
def Ybad.laysM288_ren : Go.Shelf.Ren := ⟨fun | 288 => 18 | 283 => 21 | 284 => 22 | 285 => 23 | 286 => 24 | 129 => 30 | 317 => 29 | 318 => 31 | 319 => 32 | 320 => 33 | 337 => 35 | 338 => 36 | n => n, fun | 37 => 22 | 53 => 24 | 3 => 3 | 4 => 4 | 9 => 9 | 171 => 54 | 0 => 0 | 173 => 57 | 212 => 63 | 51 => 64 | 5 => 5 | 20 => 20 | 213 => 65 | 46 => 50 | 232 => 70 | 233 => 71 | n => n, fun | 17 => 1 | 18 => 2 | 19 => 3 | n => n⟩
theorem Ybad.laysM288 : Go.Proofs.LaysM.n288 Ybad.prog Ybad.laysM288_ren := {
  mixed := by kernel_rfl
  f129 := Ybad.func30.trans (congrArg some (by kernel_rfl))
  f283 := Ybad.func21.trans (congrArg some (by kernel_rfl))
  f284 := Ybad.func22.trans (congrArg some (by kernel_rfl))
  f285 := Ybad.func23.trans (congrArg some (by kernel_rfl))
  f286 := Ybad.func24.trans (congrArg some (by kernel_rfl))
  f288 := Ybad.func18.trans (congrArg some (by kernel_rfl))
  f317 := Ybad.func29.trans (congrArg some (by kernel_rfl))
  f318 := Ybad.func31.trans (congrArg some (by kernel_rfl))
  f319 := Ybad.func32.trans (congrArg some (by kernel_rfl))
  f320 := Ybad.func33.trans (congrArg some (by kernel_rfl))
  f337 := Ybad.func35.trans (congrArg some (by kernel_rfl))
  f338 := Ybad.func36.trans (congrArg some (by kernel_rfl))
  t0 := Ybad.underlying0
  a0 := Ybad.isAgg0
  z0 := Ybad.sizeOf0
  v0 := Ybad.zeroValue0
  t3 := Ybad.underlying3
  a3 := Ybad.isAgg3
  z3 := Ybad.sizeOf3
  v3 := Ybad.zeroValue3
  t4 := Ybad.underlying4
  a4 := Ybad.isAgg4
  z4 := Ybad.sizeOf4
  v4 := Ybad.zeroValue4
  t5 := Ybad.underlying5
  a5 := Ybad.isAgg5
  z5 := Ybad.sizeOf5
  v5 := Ybad.zeroValue5
  t9 := Ybad.underlying9
  a9 := Ybad.isAgg9
  z9 := Ybad.sizeOf9
  v9 := Ybad.zeroValue9
  t20 := Ybad.underlying20
  a20 := Ybad.isAgg20
  z20 := Ybad.sizeOf20
  v20 := Ybad.zeroValue20
  t37 := Ybad.underlying22
  a37 := Ybad.isAgg22
  z37 := Ybad.sizeOf22
  v37 := Ybad.zeroValue22
  t46 := Ybad.underlying50
  a46 := Ybad.isAgg50
  z46 := Ybad.sizeOf50
  v46 := Ybad.zeroValue50
  t51 := Ybad.underlying64
  a51 := Ybad.isAgg64
  z51 := Ybad.sizeOf64
  v51 := Ybad.zeroValue64
  t53 := Ybad.underlying24
  a53 := Ybad.isAgg24
  z53 := Ybad.sizeOf24
  v53 := Ybad.zeroValue24
  t171 := Ybad.underlying54
  a171 := Ybad.isAgg54
  z171 := Ybad.sizeOf54
  v171 := Ybad.zeroValue54
  t173 := Ybad.underlying57
  a173 := Ybad.isAgg57
  z173 := Ybad.sizeOf57
  v173 := Ybad.zeroValue57
  t212 := Ybad.underlying63
  a212 := Ybad.isAgg63
  z212 := Ybad.sizeOf63
  v212 := Ybad.zeroValue63
  t213 := Ybad.underlying65
  a213 := Ybad.isAgg65
  z213 := Ybad.sizeOf65
  t232 := Ybad.underlying70
  a232 := Ybad.isAgg70
  z232 := Ybad.sizeOf70
  v232 := Ybad.zeroValue70
  t233 := Ybad.underlying71
  a233 := Ybad.isAgg71
  z233 := Ybad.sizeOf71
  v233 := Ybad.zeroValue71
  g17 := by kernel_rfl
  g18 := by kernel_rfl
  g19 := by kernel_rfl
  i0 := by kernel_rfl
  i3 := by kernel_rfl
  i4 := by kernel_rfl
  i5 := by kernel_rfl
  i9 := by kernel_rfl
  i20 := by kernel_rfl
  i37 := by kernel_rfl
  i46 := by kernel_rfl
  i51 := by kernel_rfl
  i53 := by kernel_rfl
  i171 := by kernel_rfl
  i173 := by kernel_rfl
  i212 := by kernel_rfl
  i232 := by kernel_rfl
  i233 := by kernel_rfl
  m17 := by kernel_rfl
  m18 := by kernel_rfl
  m19 := by kernel_rfl }
open Go.RowKit Go.Sort Go.Lib in
theorem Ybad.internal_strconv_AppendUint_10 (B n u : Nat) (hu64 : u < 18446744073709551616) (sv : Value) (xs : List Value) (w : World) (hown : w.ownsRow B 5 1 sv n xs) (hBw : B ≤ w.heap.size) (hlim : n + 20 ≤ 140737488355328) (htab : Lib.TabIs Ybad.prog w nmP .u64 Lib.pow10Tab) :
    Calls Ybad.prog 18 #[sv, .int .u64 u, .int .i64 10] w fun e w' => ∃ v', e = .returned v' ∧ w'.ownsRow B 5 1 v' (n + (Lib.decDigits u).length) (xs ++ Lib.byteCells (Lib.decDigits u)) ∧ Below B w w' ∧ Lib.OthersKept 5 none w w' := Any.internal_strconv_AppendUint_10 Ybad.laysM288 B n u hu64 sv xs w hown hBw hlim htab
def Ybad.laysPa41_ren : Go.Shelf.Ren := ⟨fun | 41 => 26 | n => n, fun | 3 => 3 | n => n, fun | n => n⟩
theorem Ybad.laysPa41 : Go.Proofs.Lays.p41 Ybad.prog Ybad.laysPa41_ren := {
  mixed := by kernel_rfl
  f41 := Ybad.func26.trans (congrArg some (by kernel_rfl))
  t3 := Ybad.underlying3
  a3 := Ybad.isAgg3
  z3 := Ybad.sizeOf3
  v3 := Ybad.zeroValue3 }
open Go.RowKit Go.Lib in
theorem Ybad.hex_EncodedLen (n : Int) (h0 : 0 ≤ n) (h1 : n < 4611686018427387904) (w : World) :
    Calls Ybad.prog 26 #[.int .i64 n] w fun e w' => e = .returned (.int .i64 (n * 2)) ∧ w' = w := Any.hex_EncodedLen Ybad.laysPa41 n h0 h1 w
def Ybad.growB_ren : Go.Shelf.Ren := ⟨fun | 4 => 27 | n => n, fun | 22 => 22 | 25 => 5 | 3 => 3 | 4 => 4 | 9 => 9 | 20 => 20 | 0 => 0 | n => n, fun | n => n⟩
theorem Ybad.growB : Go.Proofs.Lays8.n4 Ybad.prog Ybad.growB_ren := {
  mixed := by kernel_rfl
  f4 := ⟨Ybad.f27.name, by decide, Ybad.func27.trans (congrArg some (by kernel_rfl))⟩
  t0 := Ybad.underlying0
  a0 := Ybad.isAgg0
  z0 := Ybad.sizeOf0
  v0 := Ybad.zeroValue0
  t3 := Ybad.underlying3
  a3 := Ybad.isAgg3
  z3 := Ybad.sizeOf3
  v3 := Ybad.zeroValue3
  t4 := Ybad.underlying4
  a4 := Ybad.isAgg4
  z4 := Ybad.sizeOf4
  v4 := Ybad.zeroValue4
  t9 := Ybad.underlying9
  a9 := Ybad.isAgg9
  z9 := Ybad.sizeOf9
  v9 := Ybad.zeroValue9
  t20 := Ybad.underlying20
  a20 := Ybad.isAgg20
  z20 := Ybad.sizeOf20
  v20 := Ybad.zeroValue20
  t22 := Ybad.underlying22
  a22 := Ybad.isAgg22
  z22 := Ybad.sizeOf22
  v22 := Ybad.zeroValue22 }
end Go.Proofs.YbulkaqwaDoor
