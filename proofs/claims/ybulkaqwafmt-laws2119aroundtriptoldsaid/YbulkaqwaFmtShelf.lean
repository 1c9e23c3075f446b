/-
  THE SHELF's CONTRACTS AT THIS PROGRAM, IN PLAIN WORDS (laid by the kit's lay-shelf and lay-plain for this program).
-/
import Derived.Shelf.Hex.Tagged
import Derived.Shelf.Hex.Lens
import Derived.Shelf.Spec.SlicesGrow
import Derived.Test.YbulkaqwaFmtProg
namespace Go.Proofs.YbulkaqwaFmt
open Go.Shelf
def Ybaf.laysPa40_ren : Go.Shelf.Ren := ⟨fun | 40 => 40 | n => n, fun | 30 => 22 | 3 => 3 | 0 => 0 | 5 => 5 | 46 => 103 | 9 => 9 | n => n, fun | n => n⟩
theorem Ybaf.laysPa40 : Go.Proofs.Lays.p40 Ybaf.prog Ybaf.laysPa40_ren := {
  mixed := by kernel_rfl
  f40 := Ybaf.func40.trans (congrArg some (by kernel_rfl))
  t0 := Ybaf.underlying0
  a0 := Ybaf.isAgg0
  z0 := Ybaf.sizeOf0
  v0 := Ybaf.zeroValue0
  t3 := Ybaf.underlying3
  a3 := Ybaf.isAgg3
  z3 := Ybaf.sizeOf3
  v3 := Ybaf.zeroValue3
  t5 := Ybaf.underlying5
  a5 := Ybaf.isAgg5
  z5 := Ybaf.sizeOf5
  v5 := Ybaf.zeroValue5
  t9 := Ybaf.underlying9
  a9 := Ybaf.isAgg9
  z9 := Ybaf.sizeOf9
  v9 := Ybaf.zeroValue9
  t30 := Ybaf.underlying22
  a30 := Ybaf.isAgg22
  z30 := Ybaf.sizeOf22
  v30 := Ybaf.zeroValue22
  t46 := Ybaf.underlying103
  a46 := Ybaf.isAgg103
  z46 := Ybaf.sizeOf103
  v46 := Ybaf.zeroValue103 }
open Go.RowKit Go.Lib in
theorem Ybaf.hex_Encode_tag (T : TypeId) (bd od nd cd N : Nat) (f : Nat → Value) (bs os n cs : Nat) (xs : List Int) (w : World) (hx : xs.length = n) (hr : ∀ i, i < n → 0 ≤ xs.getD i 0 ∧ xs.getD i 0 < 256) (hsrc : ∀ i, i < n → w.cell? ⟨bs, os + i, none⟩ = some (.int .u8 (xs.getD i 0))) (hrow : w.rowIs bd T N f) (hfit : od + nd ≤ N) (hlen : 2 * n ≤ nd) (hne : bd ≠ bs) (hbig : n ≤ 4611686018427387903) :
    Calls Ybaf.prog 40 #[.slice (some ⟨bd, od, none⟩) nd cd, .slice (some ⟨bs, os, none⟩) n cs] w fun e w' => e = .returned (.int .i64 ((n : Int) * 2)) ∧ w'.rowIs bd T N (Hx.row f od (Lib.bytesOf xs) n) ∧ w.grownBy w' (some bd) := Any.hex_Encode_tag Ybaf.laysPa40 T bd od nd cd N f bs os n cs xs w hx hr hsrc hrow hfit hlen hne hbig
def Ybaf.laysPa44_ren : Go.Shelf.Ren := ⟨fun | 44 => 34 | n => n, fun | 30 => 22 | 3 => 3 | 35 => 28 | 4 => 4 | 0 => 0 | 5 => 5 | 9 => 9 | 47 => 133 | 46 => 103 | 45 => 144 | n => n, fun | 0 => 3 | n => n⟩
theorem Ybaf.laysPa44 : Go.Proofs.Lays.p44 Ybaf.prog Ybaf.laysPa44_ren := {
  mixed := by kernel_rfl
  f44 := Ybaf.func34.trans (congrArg some (by kernel_rfl))
  t0 := Ybaf.underlying0
  a0 := Ybaf.isAgg0
  z0 := Ybaf.sizeOf0
  v0 := Ybaf.zeroValue0
  t3 := Ybaf.underlying3
  a3 := Ybaf.isAgg3
  z3 := Ybaf.sizeOf3
  v3 := Ybaf.zeroValue3
  t4 := Ybaf.underlying4
  a4 := Ybaf.isAgg4
  z4 := Ybaf.sizeOf4
  v4 := Ybaf.zeroValue4
  t5 := Ybaf.underlying5
  a5 := Ybaf.isAgg5
  z5 := Ybaf.sizeOf5
  v5 := Ybaf.zeroValue5
  t9 := Ybaf.underlying9
  a9 := Ybaf.isAgg9
  z9 := Ybaf.sizeOf9
  v9 := Ybaf.zeroValue9
  t30 := Ybaf.underlying22
  a30 := Ybaf.isAgg22
  z30 := Ybaf.sizeOf22
  v30 := Ybaf.zeroValue22
  t35 := Ybaf.underlying28
  a35 := Ybaf.isAgg28
  z35 := Ybaf.sizeOf28
  v35 := Ybaf.zeroValue28
  t45 := Ybaf.underlying144
  a45 := Ybaf.isAgg144
  z45 := Ybaf.sizeOf144
  v45 := Ybaf.zeroValue144
  t46 := Ybaf.underlying103
  a46 := Ybaf.isAgg103
  z46 := Ybaf.sizeOf103
  v46 := Ybaf.zeroValue103
  t47 := Ybaf.underlying133
  a47 := Ybaf.isAgg133
  z47 := Ybaf.sizeOf133
  v47 := Ybaf.zeroValue133
  g0 := by kernel_rfl }
open Go.RowKit Go.Lib in
theorem Ybaf.hex_Decode_tag (T : TypeId) (bd od nd cd N : Nat) (f : Nat → Value) (bs os n cs : Nat) (xs : List Int) (w : World) (ev : Value) (hx : xs.length = n) (hr : ∀ i, i < n → 0 ≤ xs.getD i 0 ∧ xs.getD i 0 < 256) (hsrc : ∀ i, i < n → w.cell? ⟨bs, os + i, none⟩ = some (.int .u8 (xs.getD i 0))) (hrow : w.rowIs bd T N f) (hfit : od + nd ≤ N) (hlen : n / 2 ≤ nd) (hne : bd ≠ bs) (hbig : n ≤ 4611686018427387903) (hE : w.cell? ⟨3, 0, none⟩ = some ev) (hgb : 3 ≠ bd) :
    Calls Ybaf.prog 34 #[.slice (some ⟨bd, od, none⟩) nd cd, .slice (some ⟨bs, os, none⟩) n cs] w fun e w' =>
      e = .returned (.tuple #[.int .i64 ((Hx.decode (Lib.bytesOf xs)).1.length : Int), Hx.errVal 133 ev (Hx.decode (Lib.bytesOf xs)).2]) ∧ w'.rowIs bd T N (Hx.rowP f od (Hx.decode (Lib.bytesOf xs)).1) ∧ w.grownBy w' (some bd) := Any.hex_Decode_tag Ybaf.laysPa44 T bd od nd cd N f bs os n cs xs w ev hx hr hsrc hrow hfit hlen hne hbig hE hgb
def Ybaf.laysPa41_ren : Go.Shelf.Ren := ⟨fun | 41 => 32 | n => n, fun | 3 => 3 | n => n, fun | n => n⟩
theorem Ybaf.laysPa41 : Go.Proofs.Lays.p41 Ybaf.prog Ybaf.laysPa41_ren := {
  mixed := by kernel_rfl
  f41 := Ybaf.func32.trans (congrArg some (by kernel_rfl))
  t3 := Ybaf.underlying3
  a3 := Ybaf.isAgg3
  z3 := Ybaf.sizeOf3
  v3 := Ybaf.zeroValue3 }
open Go.RowKit Go.Lib in
theorem Ybaf.hex_EncodedLen (n : Int) (h0 : 0 ≤ n) (h1 : n < 4611686018427387904) (w : World) :
    Calls Ybaf.prog 32 #[.int .i64 n] w fun e w' => e = .returned (.int .i64 (n * 2)) ∧ w' = w := Any.hex_EncodedLen Ybaf.laysPa41 n h0 h1 w
def Ybaf.growB_ren : Go.Shelf.Ren := ⟨fun | 4 => 39 | n => n, fun | 22 => 22 | 25 => 5 | 3 => 3 | 4 => 4 | 9 => 9 | 20 => 20 | 0 => 0 | n => n, fun | n => n⟩
theorem Ybaf.growB : Go.Proofs.Lays8.n4 Ybaf.prog Ybaf.growB_ren := {
  mixed := by kernel_rfl
  f4 := ⟨Ybaf.f39.name, by decide, Ybaf.func39.trans (congrArg some (by kernel_rfl))⟩
  t0 := Ybaf.underlying0
  a0 := Ybaf.isAgg0
  z0 := Ybaf.sizeOf0
  v0 := Ybaf.zeroValue0
  t3 := Ybaf.underlying3
  a3 := Ybaf.isAgg3
  z3 := Ybaf.sizeOf3
  v3 := Ybaf.zeroValue3
  t4 := Ybaf.underlying4
  a4 := Ybaf.isAgg4
  z4 := Ybaf.sizeOf4
  v4 := Ybaf.zeroValue4
  t9 := Ybaf.underlying9
  a9 := Ybaf.isAgg9
  z9 := Ybaf.sizeOf9
  v9 := Ybaf.zeroValue9
  t20 := Ybaf.underlying20
  a20 := Ybaf.isAgg20
  z20 := Ybaf.sizeOf20
  v20 := Ybaf.zeroValue20
  t22 := Ybaf.underlying22
  a22 := Ybaf.isAgg22
  z22 := Ybaf.sizeOf22
  v22 := Ybaf.zeroValue22 }
end Go.Proofs.YbulkaqwaFmt
