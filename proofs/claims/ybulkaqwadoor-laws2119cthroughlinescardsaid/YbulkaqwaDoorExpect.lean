/-
  THE WALKS OF zzs2119cline AND bytes.Equal.
-/
import Derived.Test.YbulkaqwaDoorHex
namespace Go.Proofs.YbulkaqwaDoor
open Go Go.RowKit

theorem Ybad.info23 : (Ybad.prog.info? 23).map (·.size) = some 20 := by kernel_rfl

def sCand : ByteArray := ⟨#[32, 99, 97, 110, 100, 105, 100, 97, 116, 101, 61, 48, 120]⟩
def sAt : ByteArray := ⟨#[32, 100, 101, 97, 99, 116, 105, 118, 97, 116, 101, 100, 95, 97, 116, 61]⟩
def sGas : ByteArray := ⟨#[32, 103, 97, 115, 61]⟩
theorem line_same (m : List UInt8) (a g : Nat) : nm.data.toList ++ sCand.data.toList ++ Lib.Hx.encode m ++ sAt.data.toList ++ Lib.decDigits a ++ sGas.data.toList ++ Lib.decDigits g = lineOf m a g := by
  simp [lineOf, sCand, sAt, sGas, kCand, kAt, kGas]

set_option maxHeartbeats 2000000 in
set_option maxRecDepth 100000 in
theorem line_any (B : Nat) (v : Value) (l m : List UInt8) (a g : Nat) (w : World) (cc : Array Value) (hown : Own w B v l) (hB : B ≤ w.heap.size) (hm : m.length = 20) (ha : a < 18446744073709551616) (hg : g < 18446744073709551616) (hlim : l.length + 10000 ≤ 140737488355328) (hcc : cc = (Lib.byteCells m).toArray) :
    Calls Ybad.prog 7 #[v, .agg cc, .int .u64 a, .int .u64 g] w fun e w' => ∃ v', e = .returned v' ∧ Own w' B v' (l ++ lineOf m a g) ∧ Fr B w w' := by
  have hsz : cc.size = 20 := by rw [hcc]; simp [byteCells_length, hm]
  have HI := Lib.hid (show (Ybad.prog.info? 23).map (·.size) = some cc.size by rw [hsz]; exact Ybad.info23)
  have hel := Lib.Hx.encode_length m
  rw [hm] at hel
  have HEL := Lib.hid hel
  have HC := Lib.hid hcc
  have hla := Lib.hid (dec_len a ha)
  clear hel hcc
  go_enter Ybad.func7, Ybad.ntmps7
  go_wp2_with (at_builtin; refine wpList_app_str byt rfl _ _ rfl B _ _ rfl (hown.alloc _) nm rfl ?_ ?_ ?_)
  · show l.length + 29 ≤ _
    omega
  · simp; omega
  intro v1 w1 o1 f1
  have b1 := f1.box (heap_alloc_new w (.cells cc 23)) (by decide)
  have g1 : Fr B w w1 := ((Fr.refl B w).alloc hB _).trans f1
  have z1 := g1.size
  have B1 := Lib.hid b1
  clear f1 b1
  go_wp2_with (at_builtin; refine wpList_app_str byt rfl _ _ rfl B _ _ rfl o1 sCand rfl ?_ ?_ ?_)
  · simp only [List.length_append]
    show l.length + 29 + 13 ≤ _
    omega
  · omega
  intro v2 w2 o2 f2
  have B2 := Lib.hid (f2.box B1.out (by decide))
  have g2 := g1.trans f2
  have z2 := g2.size
  clear f2 o1 g1 B1
  have hl2 : (l ++ (nm.data.toList ++ sCand.data.toList)).length = l.length + 42 := by simp only [List.length_append]; rfl
  have HL2 := Lib.hid hl2
  clear hl2
  go_wp2_with (first
    | (refine wpList_load_row rfl 23 _ rfl w.heap.size rfl 23 cc (0, 0) _ B2.out Ybad.underlying23 rfl HI.out ?_)
    | (go_at_call 13; refine (hex_any B v2 _ m w2 cc o2 (by omega) hm (by first | (rw [HL2.out]; omega) | (simp [nm, sCand]; omega)) HC.out).mono ?_; rintro e w3 ⟨v3, rfl, o3, f3⟩; refine Hid.out ?_))
  refine Lib.hid ?_
  have g3 := g2.trans f3
  have z3 := g3.size
  clear f3 o2 g2 B2
  go_wp2_with (at_builtin; refine wpList_app_str byt rfl _ _ rfl B _ _ rfl o3 sAt rfl ?_ ?_ ?_)
  · simp [nm, sCand, sAt, HEL.out, ByteArray.size]; omega
  · omega
  intro v4 w4 o4 f4
  have g4 := g3.trans f4
  have z4 := g4.size
  clear f4 o3 g3
  go_wp2_with (go_at_call 10; refine (dec_any B v4 _ a w4 o4 (by omega) ha (by simp [nm, sCand, sAt, HEL.out]; omega)).mono ?_; rintro e w5 ⟨v5, rfl, o5, f5⟩; refine Hid.out ?_)
  refine Lib.hid ?_
  have g5 := g4.trans f5
  have z5 := g5.size
  clear f5 o4 g4
  go_wp2_with (at_builtin; refine wpList_app_str byt rfl _ _ rfl B _ _ rfl o5 sGas rfl ?_ ?_ ?_)
  · have := hla.out
    simp [nm, sCand, sAt, sGas, HEL.out, ByteArray.size]; omega
  · omega
  intro v6 w6 o6 f6
  have g6 := g5.trans f6
  have z6 := g6.size
  clear f6 o5 g5
  go_wp2_with (go_at_call 10; refine (dec_any B v6 _ g w6 o6 (by omega) hg (by have := hla.out; simp [nm, sCand, sAt, sGas, HEL.out]; omega)).mono ?_; rintro e w7 ⟨v7, rfl, o7, f7⟩; refine Hid.out ?_)
  refine Lib.hid ?_
  have g7 := g6.trans f7
  clear f7 o6 g6
  have o7' : Own w7 B v7 (l ++ lineOf m a g) := by rw [← line_same]; simpa only [List.append_assoc] using o7
  clear o7
  go_wp2
  go_ret
  exact ⟨v7, rfl, o7', g7⟩

set_option maxHeartbeats 1000000 in
theorem equal_same (B B' : Nat) (v v' : Value) (l : List UInt8) (w : World) (h : Own w B v l) (h' : Own w B' v' l) :
    Calls Ybad.prog 8 #[v, v'] w fun e w' => e = .returned (.bool true) ∧ w' = w := by
  have c1 := h.convert byt
  have c2 := h'.convert byt
  clear h h'
  go_enter Ybad.func8, Ybad.ntmps8
  go_wp2
  go_ret
  exact ⟨rfl, rfl⟩
end Go.Proofs.YbulkaqwaDoor
