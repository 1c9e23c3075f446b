/-
  THE SHELF's CONTRACTS AT THIS PROGRAM, IN PLAIN WORDS (laid by the kit's lay-shelf and lay-plain for this program): hex.Encode, hex.EncodedLen, slices.Grow.
-/
import Derived.Shelf.Hex.Tagged
import Derived.Shelf.Hex.Lens
import Derived.Shelf.Spec.SlicesGrow
import Derived.Test.YbulkaqwaProg
namespace Go.Proofs.Ybulkaqwa
open Go.Shelf
def Yba.laysPa40_ren : Go.Shelf.Ren := ⟨fun | 40 => 12 | n => n, fun | 30 => 22 | 3 => 3 | 0 => 0 | 5 => 5 | 46 => 30 | 9 => 9 | n => n, fun | n => n⟩
theorem Yba.laysPa40 : Go.Proofs.Lays.p40 Yba.prog Yba.laysPa40_ren := {
  mixed := by kernel_rfl
  f40 := Yba.func12.trans (congrArg some (by kernel_rfl))
  t0 := Yba.underlying0
  a0 := Yba.isAgg0
  z0 := Yba.sizeOf0
  v0 := Yba.zeroValue0
  t3 := Yba.underlying3
  a3 := Yba.isAgg3
  z3 := Yba.sizeOf3
  v3 := Yba.zeroValue3
  t5 := Yba.underlying5
  a5 := Yba.isAgg5
  z5 := Yba.sizeOf5
  v5 := Yba.zeroValue5
  t9 := Yba.underlying9
  a9 := Yba.isAgg9
  z9 := Yba.sizeOf9
  v9 := Yba.zeroValue9
  t30 := Yba.underlying22
  a30 := Yba.isAgg22
  z30 := Yba.sizeOf22
  v30 := Yba.zeroValue22
  t46 := Yba.underlying30
  a46 := Yba.isAgg30
  z46 := Yba.sizeOf30
  v46 := Yba.zeroValue30 }
open Go.RowKit Go.Lib in
theorem Yba.hex_Encode_tag (T : TypeId) (bd od nd cd N : Nat) (f : Nat → Value) (bs os n cs : Nat) (xs : List Int) (w : World) (hx : xs.length = n) (hr : ∀ i, i < n → 0 ≤ xs.getD i 0 ∧ xs.getD i 0 < 256) (hsrc : ∀ i, i < n → w.cell? ⟨bs, os + i, none⟩ = some (.int .u8 (xs.getD i 0))) (hrow : w.rowIs bd T N f) (hfit : od + nd ≤ N) (hlen : 2 * n ≤ nd) (hne : bd ≠ bs) (hbig : n ≤ 4611686018427387903) :
    Calls Yba.prog 12 #[.slice (some ⟨bd, od, none⟩) nd cd, .slice (some ⟨bs, os, none⟩) n cs] w fun e w' => e = .returned (.int .i64 ((n : Int) * 2)) ∧ w'.rowIs bd T N (Hx.row f od (Lib.bytesOf xs) n) ∧ w.grownBy w' (some bd) := Any.hex_Encode_tag Yba.laysPa40 T bd od nd cd N f bs os n cs xs w hx hr hsrc hrow hfit hlen hne hbig
def Yba.laysPa41_ren : Go.Shelf.Ren := ⟨fun | 41 => 10 | n => n, fun | 3 => 3 | n => n, fun | n => n⟩
theorem Yba.laysPa41 : Go.Proofs.Lays.p41 Yba.prog Yba.laysPa41_ren := {
  mixed := by kernel_rfl
  f41 := Yba.func10.trans (congrArg some (by kernel_rfl))
  t3 := Yba.underlying3
  a3 := Yba.isAgg3
  z3 := Yba.sizeOf3
  v3 := Yba.zeroValue3 }
open Go.RowKit Go.Lib in
theorem Yba.hex_EncodedLen (n : Int) (h0 : 0 ≤ n) (h1 : n < 4611686018427387904) (w : World) :
    Calls Yba.prog 10 #[.int .i64 n] w fun e w' => e = .returned (.int .i64 (n * 2)) ∧ w' = w := Any.hex_EncodedLen Yba.laysPa41 n h0 h1 w
def Yba.growB_ren : Go.Shelf.Ren := ⟨fun | 4 => 11 | n => n, fun | 22 => 22 | 25 => 5 | 3 => 3 | 4 => 4 | 9 => 9 | 20 => 20 | 0 => 0 | n => n, fun | n => n⟩
theorem Yba.growB : Go.Proofs.Lays8.n4 Yba.prog Yba.growB_ren := {
  mixed := by kernel_rfl
  f4 := ⟨Yba.f11.name, by decide, Yba.func11.trans (congrArg some (by kernel_rfl))⟩
  t0 := Yba.underlying0
  a0 := Yba.isAgg0
  z0 := Yba.sizeOf0
  v0 := Yba.zeroValue0
  t3 := Yba.underlying3
  a3 := Yba.isAgg3
  z3 := Yba.sizeOf3
  v3 := Yba.zeroValue3
  t4 := Yba.underlying4
  a4 := Yba.isAgg4
  z4 := Yba.sizeOf4
  v4 := Yba.zeroValue4
  t9 := Yba.underlying9
  a9 := Yba.isAgg9
  z9 := Yba.sizeOf9
  v9 := Yba.zeroValue9
  t20 := Yba.underlying20
  a20 := Yba.isAgg20
  z20 := Yba.sizeOf20
  v20 := Yba.zeroValue20
  t22 := Yba.underlying22
  a22 := Yba.isAgg22
  z22 := Yba.sizeOf22
  v22 := Yba.zeroValue22 }
end Go.Proofs.Ybulkaqwa
