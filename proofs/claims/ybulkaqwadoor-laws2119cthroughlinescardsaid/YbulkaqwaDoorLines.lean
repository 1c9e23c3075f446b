/-
  THE WALK OF Outcome.AppendLines at an outcome of no events whose action is the scheduled deactivation.
-/
import Derived.Test.YbulkaqwaDoorLawA
namespace Go.Proofs.YbulkaqwaDoor
open Go Go.RowKit

theorem lineOf_len (m : List UInt8) (a g : Nat) (hm : m.length = 20) (ha : a < 18446744073709551616) (hg : g < 18446744073709551616) : (lineOf m a g).length ≤ 1000 := by
  have hel := Lib.Hx.encode_length m
  rw [hm] at hel
  have h1 := dec_len a ha
  have h2 := dec_len g hg
  simp [lineOf, nm, kCand, kAt, kGas, hel]
  omega

theorem upon_ok {P : Program} {o : Oper} {a : Act} {K : Act → World → Prop} {Q : Exit → Act → World → Prop} {α : Type} {r : Result α} {f : α → World → Result _} {x : α} {w : World} (h : r = .ok x w) (k : Oper.upon P o a K Q (f x w)) : Oper.upon P o a K Q (r.andThen f) := by
  rw [h]
  exact k

set_option maxHeartbeats 4000000 in
set_option maxRecDepth 100000 in
theorem lines_any (m : List UInt8) (a : Nat) (cl : List Value) (hcl : cl = Lib.byteCells m ++ [Value.int .u64 (a : Int)]) (B : Nat) (v : Value) (l : List UInt8) (g hh : Nat) (w : World) (hown : Own w B v l) (hB : B ≤ w.heap.size) (hB1 : 1 < B) (hm : m.length = 20) (ha : a < 18446744073709551616) (hg : g < 18446744073709551616) (hh' : hh < 18446744073709551616) (hlim : l.length + 20000 ≤ 140737488355328) (ht : Tab w) :
    Calls Ybad.prog 9 #[.agg #[.int .u64 hh, .iface 27 (.agg cl.toArray), .nilIface, .int .u64 g, .slice none 0 0], v] w fun e w' => ∃ v', e = .returned v' ∧ Own w' B v' (l ++ Lib.decDigits hh ++ [32] ++ lineOf m a g ++ [10]) ∧ Fr B w w' := by
  have HLN := Lib.hid (appendLine_cl m a cl hcl)
  have HT := Lib.hid ht
  have hld := dec_len hh hh'
  have hll := lineOf_len m a g hm ha hg
  clear hcl ht
  obtain ⟨act, hact⟩ : ∃ act, act = Value.iface 27 (.agg cl.toArray) := ⟨_, rfl⟩
  rw [← hact]
  have b0 := heap_alloc_new w (.cells #[.int .u64 hh, act, .nilIface, .int .u64 g, .slice none 0 0] 34)
  have HB0 := Lib.hid b0
  have hk : ∀ w' : World, Fr B (w.alloc (.cells #[.int .u64 hh, act, .nilIface, .int .u64 g, .slice none 0 0] 34)) w' → w'.cell? ⟨w.heap.size, 0, none⟩ = some (.int .u64 hh) ∧ w'.cell? ⟨w.heap.size, 1, none⟩ = some act ∧ w'.cell? ⟨w.heap.size, 2, none⟩ = some .nilIface ∧ w'.cell? ⟨w.heap.size, 3, none⟩ = some (.int .u64 g) ∧ w'.cell? ⟨w.heap.size, 4, none⟩ = some (.slice none 0 0) := by
    intro w' hf
    have k := hf.box HB0.out (by decide)
    refine ⟨?_, ?_, ?_, ?_, ?_⟩ <;> (rw [cell_of_row w' _ _ _ _ _ k]; rfl)
  have HK := Lib.hid hk
  have g0 : Fr B w (w.alloc (.cells #[.int .u64 hh, act, .nilIface, .int .u64 g, .slice none 0 0] 34)) := (Fr.refl B w).alloc hB _
  have o0 := hown.alloc (.cells #[.int .u64 hh, act, .nilIface, .int .u64 g, .slice none 0 0] 34)
  have z0 := g0.size
  have T0 := Lib.hid (HT.out.below g0.1 hB1)
  have HACT := Lib.hid hact
  clear b0 hact hown hk
  go_enter Ybad.func9, Ybad.ntmps9
  go_wp2_with (go_at_call 14; refine (uint_any B v l hh _ o0 (by omega) hh' (by omega) T0.out).mono ?_; rintro e w1 ⟨v1, rfl, o1, f1⟩; refine Hid.out ?_)
  refine Lib.hid ?_
  have g1 := g0.trans f1
  have z1 := g1.size
  clear o0 T0
  go_wp2_with (at_builtin; refine wpList_app_byte byt rfl _ _ rfl B _ _ rfl (o1.alloc _) w1.heap.size 1 32 rfl ?_ ?_ ?_ ?_)
  · simp
  · simp; omega
  · simp; omega
  intro v2 w2 o2 f2'
  have f2 := (f1.alloc (by omega) _).trans f2'
  have g2 : Fr B w w2 := g0.trans f2
  have z2 := g2.size
  have T2 := Lib.hid (HT.out.below g2.1 hB1)
  obtain ⟨_, q1, q2, q3, q4⟩ := HK.out _ f2
  have q0 := (HK.out _ f2).1
  clear f2' o1 g1 f1
  obtain ⟨rfl⟩ := HACT.out
  go_wp2
  refine upon_ok (x := (5, .agg cl.toArray)) (w := w2) (by kernel_rfl) ?_
  go_wp2_with (go_at_call 5; refine (HLN.out B v2 _ g hh _ _ w2 o2 (by omega) hB1 hm ha hg (by simp; omega) T2.out).mono ?_; rintro e w3 ⟨v3, rfl, o3, f3'⟩; refine Hid.out ?_)
  refine Lib.hid ?_
  have f3 := f2.trans f3'
  have g3 : Fr B w w3 := g0.trans f3
  have z3 := g3.size
  clear f3' o2 f2 g2 q0 q1 q2 q3 q4 T2
  go_wp2_with (at_builtin; refine wpList_app_byte byt rfl _ _ rfl B _ _ rfl (o3.alloc _) w3.heap.size 1 10 rfl ?_ ?_ ?_ ?_)
  · simp
  · simp only [List.length_append, List.length_cons, List.length_nil]; omega
  · simp; omega
  intro v4 w4 o4 f4'
  have f4 := (f3.alloc (by omega) _).trans f4'
  have g4 : Fr B w w4 := g0.trans f4
  obtain ⟨_, _, _, _, q4⟩ := HK.out _ f4
  clear f4' o3 g3 f3
  go_wp2
  refine wp_loop_once ?_
  go_wp2
  go_ret
  exact ⟨v4, rfl, by simpa using o4, g4⟩
end Go.Proofs.YbulkaqwaDoor
