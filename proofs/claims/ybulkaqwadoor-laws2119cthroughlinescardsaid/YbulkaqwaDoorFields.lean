/-
  THE WALKS OF strconv.AppendUint (over the shelf's contract), appendUintField AND appendAddressField.
-/
import Derived.Test.YbulkaqwaDoorParts
import Derived.Lib.ItoaLen
import Derived.WalkSmall
namespace Go.Proofs.YbulkaqwaDoor
open Go Go.RowKit

/-- The table of powers of ten lies as the library's text lays it. -/
def Tab (w : World) : Prop := Lib.TabIs Ybad.prog w nmP .u64 Lib.pow10Tab

theorem gP : Ybad.prog.globalNamed nmP = some 1 := by kernel_rfl
theorem Tab.below {w w' : World} {B : Nat} (h : Tab w) (hb : Below B w w') (hB : 1 < B) : Tab w' := var?_below hb gP hB h

set_option maxHeartbeats 1000000 in
/-- strconv.AppendUint at base 10 -/
theorem uint_any (B : Nat) (v : Value) (l : List UInt8) (u : Nat) (w : World) (hown : Own w B v l) (hB : B ≤ w.heap.size) (hu : u < 18446744073709551616) (hlim : l.length + 20 ≤ 140737488355328) (ht : Tab w) :
    Calls Ybad.prog 14 #[v, .int .u64 u, .int .i64 10] w fun e w' => ∃ v', e = .returned v' ∧ Own w' B v' (l ++ Lib.decDigits u) ∧ Fr B w w' := by
  have HT := Lib.hid ht
  clear ht
  go_enter Ybad.func14, Ybad.ntmps14
  go_wp2_with (go_at_call 18; refine (Ybad.internal_strconv_AppendUint_10 B l.length u hu v (Lib.byteCells l) w hown hB hlim HT.out).mono ?_; rintro e w1 ⟨v1, rfl, o1, b1, k1⟩; refine Hid.out ?_)
  refine Lib.hid ?_
  have o1' : Own w1 B v1 (l ++ Lib.decDigits u) := by
    show w1.ownsRow B 5 1 v1 (l ++ Lib.decDigits u).length (Lib.byteCells (l ++ Lib.decDigits u))
    rw [byteCells_append, List.length_append]
    exact o1
  clear o1
  go_wp2
  go_ret
  exact ⟨v1, rfl, o1', b1, k1⟩

theorem dec_len (u : Nat) (hu : u < 18446744073709551616) : (Lib.decDigits u).length ≤ 20 := by
  rw [Lib.decDigits_length]; exact Lib.nDigits_le20 u hu

set_option maxHeartbeats 1000000 in
theorem uintField_any (B : Nat) (v : Value) (l : List UInt8) (key : ByteArray) (u : Nat) (w : World) (hown : Own w B v l) (hB : B ≤ w.heap.size) (hB1 : 1 < B) (hu : u < 18446744073709551616) (hk : key.size ≤ 1000) (hlim : l.length + 2000 ≤ 140737488355328) (ht : Tab w) :
    Calls Ybad.prog 12 #[v, .string key, .int .u64 u] w fun e w' => ∃ v', e = .returned v' ∧ Own w' B v' (l ++ [32] ++ key.data.toList ++ [61] ++ Lib.decDigits u) ∧ Fr B w w' := by
  have HT := Lib.hid ht
  have hkl : key.data.toList.length = key.size := by rw [Array.length_toList]; rfl
  clear ht
  go_enter Ybad.func12, Ybad.ntmps12
  go_wp2_with (go_at_call 16; refine (appendField_any B v l key ⟨#[]⟩ w hown hB (by show l.length + key.size + 0 + 2 ≤ _; omega)).mono ?_; rintro e w1 ⟨v1, rfl, o1, f1⟩; refine Hid.out ?_)
  refine Lib.hid ?_
  have HT1 := Lib.hid (HT.out.below f1.1 hB1)
  have z1 := f1.size
  go_wp2_with (go_at_call 14; refine (uint_any B v1 _ u w1 o1 (by omega) hu (by simp; omega) HT1.out).mono ?_; rintro e w2 ⟨v2, rfl, o2, f2⟩; refine Hid.out ?_)
  refine Lib.hid ?_
  have g2 := f1.trans f2
  clear f1 f2 o1
  go_wp2
  go_ret
  exact ⟨v2, rfl, by simpa using o2, g2⟩

set_option maxHeartbeats 1000000 in
theorem addressField_any (B : Nat) (v : Value) (l m : List UInt8) (key : ByteArray) (w : World) (cc : Array Value) (hown : Own w B v l) (hB : B ≤ w.heap.size) (hm : m.length = 20) (hk : key.size ≤ 1000) (hlim : l.length + 2000 ≤ 140737488355328)
    (hcc : cc = (Lib.byteCells m).toArray) :
    Calls Ybad.prog 11 #[v, .string key, .agg cc] w fun e w' => ∃ v', e = .returned v' ∧ Own w' B v' (l ++ [32] ++ key.data.toList ++ [61] ++ [48, 120] ++ Lib.Hx.encode m) ∧ Fr B w w' := by
  have hsz : cc.size = 20 := by rw [hcc]; simp [byteCells_length, hm]
  have hi : (Ybad.prog.info? 25).map (·.size) = some cc.size := by rw [hsz]; exact Ybad.info25
  have hkl : key.data.toList.length = key.size := by rw [Array.length_toList]; rfl
  have HC := Lib.hid hcc
  have HI := Lib.hid hi
  clear hcc hi
  go_enter Ybad.func11, Ybad.ntmps11
  go_wp2_with (go_at_call 16; refine (appendField_any B v l key ⟨#[]⟩ (w.alloc (.cells cc 25)) (hown.alloc _) (by simp; omega) (by show l.length + key.size + 0 + 2 ≤ _; omega)).mono ?_; rintro e w1 ⟨v1, rfl, o1, f1⟩; refine Hid.out ?_)
  refine Lib.hid ?_
  have hb1 := Lib.hid (f1.box (heap_alloc_new w (.cells cc 25)) (by decide))
  have g1 : Fr B w w1 := ((Fr.refl B w).alloc hB _).trans f1
  have z1 := g1.size
  clear f1
  go_wp2_with (first
    | (refine wpList_load_row rfl 25 _ rfl w.heap.size rfl 25 cc (0, 0) _ hb1.out Ybad.underlying25 rfl HI.out ?_)
    | (go_at_call 17; refine (appendText_any B v1 _ m w1 cc o1 (by omega) hm (by simp; omega) HC.out).mono ?_; rintro e w2 ⟨v2, rfl, o2, f2⟩; refine Hid.out ?_))
  refine Lib.hid ?_
  have g2 := g1.trans f2
  clear f2 o1 g1
  go_wp2
  go_ret
  exact ⟨v2, rfl, by simpa using o2, g2⟩
end Go.Proofs.YbulkaqwaDoor
