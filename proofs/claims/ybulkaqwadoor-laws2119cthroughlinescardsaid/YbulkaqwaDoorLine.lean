/-
  THE WALK OF (ScheduleCandidateDeactivation).appendLine.
-/
import Derived.Test.YbulkaqwaDoorFields
import Derived.Deep.MidRow
namespace Go.Proofs.YbulkaqwaDoor
open Go Go.RowKit

/-- The cells of a ScheduleCandidateDeactivation. -/
def sc (m : List UInt8) (a : Nat) : Array Value := (Lib.byteCells m ++ [Value.int .u64 (a : Int)]).toArray
theorem sc_size (m : List UInt8) (a : Nat) (hm : m.length = 20) : (sc m a).size = 21 := by simp [sc, byteCells_length, hm]
theorem sc_range {w : World} {b t : Nat} {fz : Nat × Nat} {m : List UInt8} {a : Nat} (h : w.heap[b]? = some (.cells (sc m a) t fz)) : w.rangeAt b 0 (Lib.byteCells m) := by
  intro j v hv
  have hj : j < (Lib.byteCells m).length := (List.getElem?_eq_some_iff.1 hv).1
  rw [Nat.zero_add, cell_of_row w b j _ t fz h]
  simp only [sc, List.getElem?_toArray]
  rw [List.getElem?_append_left hj]
  exact hv
theorem sc_last {w : World} {b t : Nat} {fz : Nat × Nat} {m : List UInt8} {a : Nat} (hm : m.length = 20) (h : w.heap[b]? = some (.cells (sc m a) t fz)) : w.cell? ⟨b, 20, none⟩ = some (.int .u64 (a : Int)) := by
  rw [cell_of_row w b 20 _ t fz h]
  simp only [sc, List.getElem?_toArray]
  rw [List.getElem?_append_right (by rw [byteCells_length]; omega), byteCells_length, hm]
  rfl

/-- The action's name. -/
def nm : ByteArray := ⟨#[83, 99, 104, 101, 100, 117, 108, 101, 67, 97, 110, 100, 105, 100, 97, 116, 101, 68, 101, 97, 99, 116, 105, 118, 97, 116, 105, 111, 110]⟩
def kCand : ByteArray := ⟨#[99, 97, 110, 100, 105, 100, 97, 116, 101]⟩
def kAt : ByteArray := ⟨#[100, 101, 97, 99, 116, 105, 118, 97, 116, 101, 100, 95, 97, 116]⟩
def kGas : ByteArray := ⟨#[103, 97, 115]⟩
/-- What the action's line holds. -/
def lineOf (m : List UInt8) (a g : Nat) : List UInt8 :=
  nm.data.toList ++ ([32] ++ kCand.data.toList ++ [61] ++ [48, 120] ++ Lib.Hx.encode m) ++ ([32] ++ kAt.data.toList ++ [61] ++ Lib.decDigits a) ++ ([32] ++ kGas.data.toList ++ [61] ++ Lib.decDigits g)

set_option maxHeartbeats 2000000 in
set_option maxRecDepth 100000 in
theorem appendLine_any (B : Nat) (v : Value) (l m : List UInt8) (a g hh : Nat) (act ev : Value) (w : World) (hown : Own w B v l) (hB : B ≤ w.heap.size) (hB1 : 1 < B) (hm : m.length = 20) (ha : a < 18446744073709551616) (hg : g < 18446744073709551616) (hlim : l.length + 10000 ≤ 140737488355328) (ht : Tab w) :
    Calls Ybad.prog 5 #[.agg (sc m a), v, .agg #[.int .u64 hh, act, .nilIface, .int .u64 g, ev]] w fun e w' => ∃ v', e = .returned v' ∧ Own w' B v' (l ++ lineOf m a g) ∧ Fr B w w' := by
  obtain ⟨cs, hcs⟩ : ∃ cs, cs = sc m a := ⟨_, rfl⟩
  rw [← hcs]
  have hel := Lib.Hx.encode_length m
  rw [hm] at hel
  have HEL := Lib.hid hel
  have HT := Lib.hid ht
  have HCS := Lib.hid hcs
  clear hel ht hcs
  go_enter Ybad.func5, Ybad.ntmps5
  go_wp2_with (at_builtin; refine wpList_app_str byt rfl _ _ rfl B _ _ rfl ((hown.alloc _).alloc _) nm rfl ?_ ?_ ?_)
  · show l.length + 29 ≤ _
    omega
  · simp; omega
  intro v1 w1 o1 f1
  have b27 := f1.box (heap_alloc2_old w (.cells cs 27) (.cells #[.int .u64 hh, act, .nilIface, .int .u64 g, ev] 34)) (by decide)
  have b34 := f1.box (heap_alloc2_new w (.cells cs 27) (.cells #[.int .u64 hh, act, .nilIface, .int .u64 g, ev] 34)) (by decide)
  have g1 : Fr B w w1 := (((Fr.refl B w).alloc hB _).alloc (by simp; omega) _).trans f1
  have z1 := g1.size
  have HT1 := Lib.hid (HT.out.below g1.1 hB1)
  have r27 : w1.rangeAt w.heap.size 0 (Lib.byteCells m) := sc_range (a := a) (by rw [← HCS.out]; exact b27)
  have R27 := Lib.hid r27
  have B27 := Lib.hid b27
  have B34 := Lib.hid b34
  have HI25 := Lib.hid (show (Ybad.prog.info? 25).map (·.size) = some (Lib.byteCells m).length by rw [byteCells_length, hm]; exact Ybad.info25)
  clear f1 b27 b34 r27
  go_wp2_with (first
    | (refine wpList_load_mid rfl 25 _ rfl w.heap.size 0 rfl (Lib.byteCells m) _ R27.out Ybad.underlying25 rfl HI25.out ?_)
    | (go_at_call 11; refine (addressField_any B v1 _ m kCand w1 _ o1 (by omega) hm (by decide) (by simp [nm]; omega) rfl).mono ?_; rintro e w2 ⟨v2, rfl, o2, f2⟩; refine Hid.out ?_))
  refine Lib.hid ?_
  have g2 := g1.trans f2
  have z2 := g2.size
  have HT2 := Lib.hid (HT.out.below g2.1 hB1)
  have c27 : w2.cell? ⟨w.heap.size, 20, none⟩ = some (.int .u64 (a : Int)) := sc_last hm (by rw [← HCS.out]; exact f2.box B27.out (by decide))
  have B34' := Lib.hid (f2.box B34.out (by decide))
  clear f2 o1 g1 B34 R27 HT1
  go_wp2_with (go_at_call 12; refine (uintField_any B v2 _ kAt a w2 o2 (by omega) hB1 ha (by decide) (by simp [nm, kCand, HEL.out]; omega) HT2.out).mono ?_; rintro e w3 ⟨v3, rfl, o3, f3⟩; refine Hid.out ?_)
  refine Lib.hid ?_
  have g3 := g2.trans f3
  have z3 := g3.size
  have HT3 := Lib.hid (HT.out.below g3.1 hB1)
  have c34 : w3.cell? ⟨w.heap.size + 1, 3, none⟩ = some (.int .u64 (g : Int)) := by
    rw [cell_of_row w3 _ 3 _ 34 _ (f3.box B34'.out (by decide))]
    rfl
  have hla := dec_len a ha
  clear f3 o2 g2 B34' HT2 c27
  go_wp2_with (go_at_call 12; refine (uintField_any B v3 _ kGas g w3 o3 (by omega) hB1 hg (by decide) (by simp [nm, kCand, kAt, HEL.out]; omega) HT3.out).mono ?_; rintro e w4 ⟨v4, rfl, o4, f4⟩; refine Hid.out ?_)
  refine Lib.hid ?_
  have g4 := g3.trans f4
  clear f4 o3 g3 HT3 c34
  go_wp2
  go_ret
  exact ⟨v4, rfl, by simpa [lineOf] using o4, g4⟩
end Go.Proofs.YbulkaqwaDoor
