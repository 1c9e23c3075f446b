/-
  THE WALK OF LawS2124ANone.
-/
import Derived.Test.YbulkaqysDoorBody
namespace Go.Proofs.YbulkaqysDoor
open Go Go.RowKit

theorem add_flat (g n : Nat) : (⟨g, 0, none⟩ : Addr).add n = ⟨g, n, none⟩ := by
  unfold Addr.add
  split
  · subst_vars; rfl
  · simp

set_option maxHeartbeats 4000000 in
set_option maxRecDepth 100000 in
theorem law_none (ao qo : Option Addr) (cap nq cq : Nat) (lb : List UInt8) (w : World) (hlb : lb.length ≤ 1024) (hnq : nq ≤ 1024) (hsrc : Src w ao cap lb) :
    Calls Ybad.prog 4 #[.slice ao lb.length cap, .slice qo nq cq] w fun e w' => e = .returned (.bool true) ∧ Below w.heap.size w w' := by
  have hd0 : decide ((1024 : Int) < (lb.length : Int)) = false := decide_eq_false (by omega)
  have hd1 : decide ((1024 : Int) < (nq : Int)) = false := decide_eq_false (by omega)
  go_enter Ybad.func4, Ybad.ntmps4
  go_wp2_with (at_builtin; refine wpList_app_src byt rfl _ _ rfl w.heap.size _ [] rfl (Own.nil _ _) ao cap lb rfl hsrc ?_ ?_ ?_)
  · simp; omega
  · omega
  intro v1 w1 o1' f1
  have o1 : Own w1 w.heap.size v1 lb := o1'
  have z1 := f1.size
  clear o1'
  have g1 : Fr w.heap.size w ((w1.alloc (.cells #[.pointer none, .int .i64 0, .int .i64 0, .int .i64 0, .slice none 0 0, .int .i32 0, .slice none 0 0, .pointer none] 32)).alloc (.cells #[.pointer (some ⟨w1.heap.size, 0, none⟩), .map none, .slice qo nq cq] 35)) := (f1.alloc (by omega) _).alloc (by simp; omega) _
  have q1 := (o1.alloc (.cells #[.pointer none, .int .i64 0, .int .i64 0, .int .i64 0, .slice none 0 0, .int .i32 0, .slice none 0 0, .pointer none] 32)).alloc (.cells #[.pointer (some ⟨w1.heap.size, 0, none⟩), .map none, .slice qo nq cq] 35)
  have cL : ((w1.alloc (.cells #[.pointer none, .int .i64 0, .int .i64 0, .int .i64 0, .slice none 0 0, .int .i32 0, .slice none 0 0, .pointer none] 32)).alloc (.cells #[.pointer (some ⟨w1.heap.size, 0, none⟩), .map none, .slice qo nq cq] 35)).cell? ⟨w1.heap.size + 1, 2, none⟩ = some (.slice qo nq cq) := by
    rw [cell_of_row _ _ _ _ _ _ (heap_alloc2_new w1 (.cells #[.pointer none, .int .i64 0, .int .i64 0, .int .i64 0, .slice none 0 0, .int .i32 0, .slice none 0 0, .pointer none] 32) (.cells #[.pointer (some ⟨w1.heap.size, 0, none⟩), .map none, .slice qo nq cq] 35))]
    rfl
  have zz := g1.size
  clear o1
  go_wp2_with (go_at_call 7; refine (body_none w.heap.size v1 lb (w1.heap.size + 1) nq cq qo _ _ _ _ _ q1 (by omega) (by omega) cL).mono ?_; rintro e w2 ⟨v2, rfl, o2, f2⟩; refine Hid.out ?_)
  refine Lib.hid ?_
  have g2 := g1.trans f2
  have s2 : Src w2 ao cap lb := hsrc.below (g2.1) (Nat.le_refl _)
  clear f2 g1 q1 cL zz f1
  rcases o2.form with ⟨rfl, hnil⟩ | ⟨g, cap2, rfl, hc1, hc2, hgB, hgl, hcell⟩
  · simp at hnil
  have hlen : (lb ++ [125, 10] : List UInt8).length = lb.length + 2 := by simp
  have k0 : w2.cell? ((⟨g, 0, none⟩ : Addr).add lb.length) = some (.int .u8 125) := by
    rw [hcell lb.length (by omega)]
    simp
  have k1 : w2.cell? ((⟨g, 0, none⟩ : Addr).add (lb.length + 1)) = some (.int .u8 10) := by
    rw [hcell (lb.length + 1) (by omega)]
    simp
  have sg : Src w2 (some ⟨g, 0, none⟩) cap2 lb := .inr ⟨_, rfl, fun _ => hgl, fun j hj => by
    rw [hcell j (by omega)]
    simp [List.getElem_append_left hj]⟩
  rw [add_flat] at k0 k1
  have e1 := sg.asStr
  have e2 := s2.asStr
  clear hcell o2 sg s2
  rw [hlen] at hc1 ⊢
  go_wp2
  go_ret
  exact ⟨rfl, g2.1⟩
set_option maxHeartbeats 1000000 in
theorem none_long (ao qo : Option Addr) (cap nq cq : Nat) (lb : List UInt8) (w : World) (hl : (1024 : Int) < lb.length) :
    Calls Ybad.prog 4 #[.slice ao lb.length cap, .slice qo nq cq] w fun e w' => e = .returned (.bool true) ∧ Below w.heap.size w w' := by
  go_enter Ybad.func4, Ybad.ntmps4
  go_wp2
  go_ret
  exact ⟨rfl, Below.refl _ _⟩
set_option maxHeartbeats 1000000 in
theorem none_long2 (ao qo : Option Addr) (cap nq cq : Nat) (lb : List UInt8) (w : World) (hlb : lb.length ≤ 1024) (hl : (1024 : Int) < nq) :
    Calls Ybad.prog 4 #[.slice ao lb.length cap, .slice qo nq cq] w fun e w' => e = .returned (.bool true) ∧ Below w.heap.size w w' := by
  have hd0 : decide ((1024 : Int) < (lb.length : Int)) = false := decide_eq_false (by omega)
  go_enter Ybad.func4, Ybad.ntmps4
  go_wp2
  go_ret
  exact ⟨rfl, Below.refl _ _⟩
theorem law_none_any (ao qo : Option Addr) (cap nq cq : Nat) (lb : List UInt8) (w : World) (hsrc : Src w ao cap lb) :
    Calls Ybad.prog 4 #[.slice ao lb.length cap, .slice qo nq cq] w fun e w' => e = .returned (.bool true) ∧ Below w.heap.size w w' := by
  by_cases hl : lb.length ≤ 1024
  · by_cases hq : nq ≤ 1024
    · exact law_none ao qo cap nq cq lb w hl hq hsrc
    · exact none_long2 ao qo cap nq cq lb w hl (by omega)
  · exact none_long ao qo cap nq cq lb w (by omega)
end Go.Proofs.YbulkaqysDoor
