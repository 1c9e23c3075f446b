/-
  THE WALK OF LawS2124AValueLine.
-/
import Derived.Test.YbulkaqysDoorVal
namespace Go.Proofs.YbulkaqysDoor
open Go Go.RowKit

theorem add_flat' (g n : Nat) : (⟨g, 0, none⟩ : Addr).add n = ⟨g, n, none⟩ := by
  unfold Addr.add
  split
  · subst_vars; rfl
  · simp
theorem new_bytes (w : World) (m : List UInt8) (cs : Array Value) (h : cs = (Lib.byteCells m).toArray) : ∀ j (hj : j < m.length), (w.alloc (.cells cs 5)).cell? ((⟨w.heap.size, 0, none⟩ : Addr).add j) = some (.int .u8 (m[j].toNat : Int)) := by
  intro j hj
  rw [add_flat', cell_of_row _ _ _ _ _ _ (heap_alloc_new w (.cells cs 5)), h]
  simp [Lib.byteCells, hj]

set_option maxHeartbeats 4000000 in
set_option maxRecDepth 100000 in
theorem law_val0 (ao qo : Option Addr) (cap nq cq s : Nat) (fr to : Int) (lb : List UInt8) (w : World) (hlb : lb.length ≤ 1024) (hnq : nq ≤ 1024) (hsrc : Src w ao cap lb) (h0 : s % (nq + 1) = 0) :
    Calls Ybad.prog 3 #[.slice ao lb.length cap, .slice qo nq cq, .int .u64 s, .int .i64 fr, .int .i64 to] w fun e w' => e = .returned (.bool true) ∧ Below w.heap.size w w' := by
  have hd0 : decide ((1024 : Int) < (lb.length : Int)) = false := decide_eq_false (by omega)
  have hd1 : decide ((1024 : Int) < (nq : Int)) = false := decide_eq_false (by omega)
  have hmod : ((s : Int) % ((nq : Int) + 1)) = 0 := by exact_mod_cast h0
  have hw0 : wrap64 0 = 0 := by kernel_rfl
  have hw1 : wrap64 (-1) = -1 := by kernel_rfl
  clear h0
  go_enter Ybad.func3, Ybad.ntmps3
  go_wp2_with (at_builtin; refine wpList_app_src byt rfl _ _ rfl w.heap.size _ [] rfl (Own.nil _ _) ao cap lb rfl hsrc ?_ ?_ ?_)
  · simp; omega
  · omega
  intro v1 w1 o1' f1
  have o1 : Own w1 w.heap.size v1 lb := o1'
  have z1 := f1.size
  clear o1'
  have HSRC := Lib.hid hsrc
  have g1 : Fr w.heap.size w (((w1.alloc (.cells #[.pointer none, .int .i64 0, .int .i64 0, .int .i64 0, .slice none 0 0, .int .i32 0, .slice none 0 0, .pointer none] 32)).alloc (.cells #[.pointer (some ⟨w1.heap.size, 0, none⟩), .map none, .slice qo nq cq] 35)).alloc (.cells #[.int .i64 fr, .int .i64 to, .slice none 0 0, .int .i64 (-1), .pointer none] 38)) := ((f1.alloc (by omega) _).alloc (by simp; omega) _).alloc (by simp; omega) _
  have q1 := ((o1.alloc (.cells #[.pointer none, .int .i64 0, .int .i64 0, .int .i64 0, .slice none 0 0, .int .i32 0, .slice none 0 0, .pointer none] 32)).alloc (.cells #[.pointer (some ⟨w1.heap.size, 0, none⟩), .map none, .slice qo nq cq] 35)).alloc (.cells #[.int .i64 fr, .int .i64 to, .slice none 0 0, .int .i64 (-1), .pointer none] 38)
  have cL : (((w1.alloc (.cells #[.pointer none, .int .i64 0, .int .i64 0, .int .i64 0, .slice none 0 0, .int .i32 0, .slice none 0 0, .pointer none] 32)).alloc (.cells #[.pointer (some ⟨w1.heap.size, 0, none⟩), .map none, .slice qo nq cq] 35)).alloc (.cells #[.int .i64 fr, .int .i64 to, .slice none 0 0, .int .i64 (-1), .pointer none] 38)).cell? ⟨w1.heap.size + 1, 2, none⟩ = some (.slice qo nq cq) := by
    have hb := heap_alloc2_new w1 (.cells #[.pointer none, .int .i64 0, .int .i64 0, .int .i64 0, .slice none 0 0, .int .i32 0, .slice none 0 0, .pointer none] 32) (.cells #[.pointer (some ⟨w1.heap.size, 0, none⟩), .map none, .slice qo nq cq] 35)
    have hl : w1.heap.size + 1 < ((w1.alloc (.cells #[.pointer none, .int .i64 0, .int .i64 0, .int .i64 0, .slice none 0 0, .int .i32 0, .slice none 0 0, .pointer none] 32)).alloc (.cells #[.pointer (some ⟨w1.heap.size, 0, none⟩), .map none, .slice qo nq cq] 35)).heap.size := by simp
    rw [cell_of_row _ _ _ _ _ _ ((heap_alloc_old _ (.cells #[.int .i64 fr, .int .i64 to, .slice none 0 0, .int .i64 (-1), .pointer none] 38) hl).trans hb)]
    rfl
  have zz := g1.size
  clear o1 hsrc
  go_wp2_with (go_at_call 7; refine (body_none w.heap.size v1 lb (w1.heap.size + 1) nq cq qo _ _ _ _ _ q1 (by omega) (by omega) cL).mono ?_; rintro e w2 ⟨v2, rfl, o2, f2⟩; refine Hid.out ?_)
  refine Lib.hid ?_
  have g2 := g1.trans f2
  have s2 : Src w2 ao cap lb := HSRC.out.below (g2.1) (Nat.le_refl _)
  clear f2 g1 q1 cL zz f1
  go_wp2_with (at_builtin; refine wpList_app_src byt rfl _ _ rfl w2.heap.size _ [] rfl (Own.nil _ _) ao cap lb rfl s2 ?_ ?_ ?_)
  · simp; omega
  · omega
  intro v3 w3 o3' f3
  have o3 : Own w3 w2.heap.size v3 lb := o3'
  have z3 := f3.size
  clear o3'
  go_wp2_with (at_builtin; refine wpList_app_bytes byt rfl _ _ rfl w2.heap.size _ _ rfl (o3.alloc _) ⟨w3.heap.size, 0, none⟩ 2 2 [125, 10] rfl rfl (new_bytes w3 [125, 10] _ rfl) ?_ ?_ ?_)
  · simp; omega
  · simp; omega
  intro v4 w4 o4 f4'
  have f4 : Fr w2.heap.size w2 w4 := (f3.alloc (by omega) _).trans f4'
  clear f4' o3 f3
  have e1 := (o2.below f4.1 (Nat.le_refl _)).convert byt
  have e2 := o4.convert byt
  have bel : Below w.heap.size w w4 := g2.1.trans (f4.1.mono g2.size)
  clear o2 o4 f4 g2 s2
  go_wp2_with (go_at_call 8; refine (equal_conv v2 v4 _ w4 e1 e2).mono ?_; rintro e w5 ⟨rfl, rfl⟩)
  go_ret
  exact ⟨rfl, bel⟩

set_option maxHeartbeats 4000000 in
set_option maxRecDepth 100000 in
theorem law_valk (ao ar : Option Addr) (ad : Addr) (cap nq cq s k cr : Nat) (fr to : Int) (lb q : List UInt8) (w : World) (hlb : lb.length ≤ 1024) (hnq : nq ≤ 1024) (hsrc : Src w ao cap lb) (h0 : s % (nq + 1) = k + 1) (hk : k < nq)
    (hcq : w.cell? (ad.add k) = some (.slice ar q.length cr)) (hsq : Src w ar cr q) (hql : q.length ≤ 4096) :
    Calls Ybad.prog 3 #[.slice ao lb.length cap, .slice (some ad) nq cq, .int .u64 s, .int .i64 fr, .int .i64 to] w fun e w' => e = .returned (.bool true) ∧ Below w.heap.size w w' := by
  have hd0 : decide ((1024 : Int) < (lb.length : Int)) = false := decide_eq_false (by omega)
  have hd1 : decide ((1024 : Int) < (nq : Int)) = false := decide_eq_false (by omega)
  have hd2 : decide ((4096 : Int) < (q.length : Int)) = false := decide_eq_false (by omega)
  have hmod : ((s : Int) % ((nq : Int) + 1)) = (k : Int) + 1 := by exact_mod_cast h0
  have hw0 : wrap64 ((k : Int) + 1) = (k : Int) + 1 := by unfold wrap64; omega
  have hw1 : wrap64 (k : Int) = (k : Int) := by unfold wrap64; omega
  have hki : (0 : Int) ≤ (k : Int) := by omega
  have hki2 : (k : Int) < (nq : Int) := by omega
  have hadw : ad.block < w.heap.size := by
    have := World.block_lt_of_cell? w _ hcq
    rwa [add_block] at this
  have HSQ := Lib.hid hsq
  have HSRC := Lib.hid hsrc
  clear h0 hsq hsrc
  go_enter Ybad.func3, Ybad.ntmps3
  go_wp2_with (at_builtin; refine wpList_app_src byt rfl _ _ rfl w.heap.size _ [] rfl (Own.nil _ _) ao cap lb rfl HSRC.out ?_ ?_ ?_)
  · simp; omega
  · omega
  intro v1 w1 o1' f1
  have o1 : Own w1 w.heap.size v1 lb := o1'
  have z1 := f1.size
  clear o1'
  have HCQ := Lib.hid hcq
  clear hcq
  have g1 : Fr w.heap.size w (((w1.alloc (.cells #[.pointer none, .int .i64 0, .int .i64 0, .int .i64 0, .slice none 0 0, .int .i32 0, .slice none 0 0, .pointer none] 32)).alloc (.cells #[.pointer (some ⟨w1.heap.size, 0, none⟩), .map none, .slice (some ad) nq cq] 35)).alloc (.cells #[.int .i64 fr, .int .i64 to, .slice none 0 0, .int .i64 (k : Int), .pointer none] 38)) := ((f1.alloc (by omega) _).alloc (by simp; omega) _).alloc (by simp; omega) _
  have q1 := ((o1.alloc (.cells #[.pointer none, .int .i64 0, .int .i64 0, .int .i64 0, .slice none 0 0, .int .i32 0, .slice none 0 0, .pointer none] 32)).alloc (.cells #[.pointer (some ⟨w1.heap.size, 0, none⟩), .map none, .slice (some ad) nq cq] 35)).alloc (.cells #[.int .i64 fr, .int .i64 to, .slice none 0 0, .int .i64 (k : Int), .pointer none] 38)
  have hbox : (((w1.alloc (.cells #[.pointer none, .int .i64 0, .int .i64 0, .int .i64 0, .slice none 0 0, .int .i32 0, .slice none 0 0, .pointer none] 32)).alloc (.cells #[.pointer (some ⟨w1.heap.size, 0, none⟩), .map none, .slice (some ad) nq cq] 35)).alloc (.cells #[.int .i64 fr, .int .i64 to, .slice none 0 0, .int .i64 (k : Int), .pointer none] 38)).heap[w1.heap.size + 1]? = some (.cells #[.pointer (some ⟨w1.heap.size, 0, none⟩), .map none, .slice (some ad) nq cq] 35 (0, 0)) := by
    have hb := heap_alloc2_new w1 (.cells #[.pointer none, .int .i64 0, .int .i64 0, .int .i64 0, .slice none 0 0, .int .i32 0, .slice none 0 0, .pointer none] 32) (.cells #[.pointer (some ⟨w1.heap.size, 0, none⟩), .map none, .slice (some ad) nq cq] 35)
    have hl : w1.heap.size + 1 < ((w1.alloc (.cells #[.pointer none, .int .i64 0, .int .i64 0, .int .i64 0, .slice none 0 0, .int .i32 0, .slice none 0 0, .pointer none] 32)).alloc (.cells #[.pointer (some ⟨w1.heap.size, 0, none⟩), .map none, .slice (some ad) nq cq] 35)).heap.size := by simp
    exact (heap_alloc_old _ (.cells #[.int .i64 fr, .int .i64 to, .slice none 0 0, .int .i64 (k : Int), .pointer none] 38) hl).trans hb
  have hLB : ∀ w', Fr w.heap.size (((w1.alloc (.cells #[.pointer none, .int .i64 0, .int .i64 0, .int .i64 0, .slice none 0 0, .int .i32 0, .slice none 0 0, .pointer none] 32)).alloc (.cells #[.pointer (some ⟨w1.heap.size, 0, none⟩), .map none, .slice (some ad) nq cq] 35)).alloc (.cells #[.int .i64 fr, .int .i64 to, .slice none 0 0, .int .i64 (k : Int), .pointer none] 38)) w' → w'.cell? ⟨w1.heap.size + 1, 2, none⟩ = some (.slice (some ad) nq cq) := by
    intro w' hf
    rw [cell_of_row _ _ _ _ _ _ (hf.box hbox (by decide))]
    rfl
  have hcW : (((w1.alloc (.cells #[.pointer none, .int .i64 0, .int .i64 0, .int .i64 0, .slice none 0 0, .int .i32 0, .slice none 0 0, .pointer none] 32)).alloc (.cells #[.pointer (some ⟨w1.heap.size, 0, none⟩), .map none, .slice (some ad) nq cq] 35)).alloc (.cells #[.int .i64 fr, .int .i64 to, .slice none 0 0, .int .i64 (k : Int), .pointer none] 38)).cell? (ad.add k) = some (.slice ar q.length cr) := by
    rw [g1.1.cell (by rw [add_block]; exact hadw)]
    exact HCQ.out
  have hsW : ∀ w', Fr w.heap.size (((w1.alloc (.cells #[.pointer none, .int .i64 0, .int .i64 0, .int .i64 0, .slice none 0 0, .int .i32 0, .slice none 0 0, .pointer none] 32)).alloc (.cells #[.pointer (some ⟨w1.heap.size, 0, none⟩), .map none, .slice (some ad) nq cq] 35)).alloc (.cells #[.int .i64 fr, .int .i64 to, .slice none 0 0, .int .i64 (k : Int), .pointer none] 38)) w' → Src w' ar cr q := fun w' hf => HSQ.out.below (g1.trans hf).1 (Nat.le_refl _)
  have zz := g1.size
  have HB := Lib.hid (body_val w.heap.size v1 lb q (w1.heap.size + 1) nq cq k cr ad ar (.int .i64 fr) (.int .i64 to) (.slice none 0 0) (.pointer none) _ q1 (by omega) (by omega) (hLB _ (Fr.refl _ _)) hLB hk hcW hadw hsW)
  clear o1 hbox hLB hcW hsW q1
  go_wp2_with (go_at_call 7; refine HB.out.mono ?_; rintro e w2 ⟨v2, rfl, o2, f2⟩; refine Hid.out ?_)
  refine Lib.hid ?_
  have g2 := g1.trans f2
  have s2 : Src w2 ao cap lb := HSRC.out.below (g2.1) (Nat.le_refl _)
  clear f2 g1 zz f1 HB
  go_wp2_with (at_builtin; refine wpList_app_src byt rfl _ _ rfl w2.heap.size _ [] rfl (Own.nil _ _) ao cap lb rfl s2 ?_ ?_ ?_)
  · simp; omega
  · omega
  intro v3 w3 o3' f3
  have o3 : Own w3 w2.heap.size v3 lb := o3'
  have z3 := f3.size
  clear o3'
  go_wp2_with (at_builtin; refine wpList_app_bytes byt rfl _ _ rfl w2.heap.size _ _ rfl (o3.alloc _) ⟨w3.heap.size, 0, none⟩ 9 9 [44, 34, 118, 97, 108, 117, 101, 34, 58] rfl rfl (new_bytes w3 [44, 34, 118, 97, 108, 117, 101, 34, 58] _ rfl) ?_ ?_ ?_)
  · simp; omega
  · simp; omega
  intro v4 w4 o4 f4'
  have f4 : Fr w2.heap.size w2 w4 := (f3.alloc (by omega) _).trans f4'
  have z4 := f4.size
  have g4 : Fr w.heap.size w w4 := g2.trans (f4.mono g2.size)
  have c4 : w4.cell? (ad.add k) = some (.slice ar q.length cr) := by
    rw [g4.1.cell (by rw [add_block]; exact hadw)]
    exact HCQ.out
  have s4 : Src w4 ar cr q := HSQ.out.below g4.1 (Nat.le_refl _)
  clear f4' o3 f3
  go_wp2_with (at_builtin; refine wpList_app_src byt rfl _ _ rfl w2.heap.size _ _ rfl o4 ar cr q rfl s4 ?_ ?_ ?_)
  · simp; omega
  · omega
  intro v5 w5 o5 f5'
  have f5 : Fr w2.heap.size w2 w5 := f4.trans f5'
  have z5 := f5.size
  clear f5' o4 f4 c4 s4 g4
  go_wp2_with (at_builtin; refine wpList_app_bytes byt rfl _ _ rfl w2.heap.size _ _ rfl (o5.alloc _) ⟨w5.heap.size, 0, none⟩ 2 2 [125, 10] rfl rfl (new_bytes w5 [125, 10] _ rfl) ?_ ?_ ?_)
  · simp; omega
  · simp; omega
  intro v6 w6 o6 f6'
  have f6 : Fr w2.heap.size w2 w6 := (f5.alloc (by omega) _).trans f6'
  clear f6' o5 f5
  have e1 := (o2.below f6.1 (Nat.le_refl _)).convert byt
  have o6' : Own w6 w2.heap.size v6 (lb ++ valOf q ++ [125, 10]) := by simpa [valOf, vNm] using o6
  have e2 := o6'.convert byt
  have bel : Below w.heap.size w w6 := g2.1.trans (f6.1.mono g2.size)
  clear o2 o6 o6' f6 g2 s2
  go_wp2_with (go_at_call 8; refine (equal_conv v2 v6 _ w6 e1 e2).mono ?_; rintro e w7 ⟨rfl, rfl⟩)
  go_ret
  exact ⟨rfl, bel⟩

set_option maxHeartbeats 2000000 in
theorem val_longq (ao ar : Option Addr) (ad : Addr) (cap nq cq s k cr n : Nat) (fr to : Int) (lb : List UInt8) (w : World) (hlb : lb.length ≤ 1024) (hnq : nq ≤ 1024) (h0 : s % (nq + 1) = k + 1) (hk : k < nq)
    (hcq : w.cell? (ad.add k) = some (.slice ar n cr)) (hql : (4096 : Int) < n) :
    Calls Ybad.prog 3 #[.slice ao lb.length cap, .slice (some ad) nq cq, .int .u64 s, .int .i64 fr, .int .i64 to] w fun e w' => e = .returned (.bool true) ∧ Below w.heap.size w w' := by
  have hd0 : decide ((1024 : Int) < (lb.length : Int)) = false := decide_eq_false (by omega)
  have hd1 : decide ((1024 : Int) < (nq : Int)) = false := decide_eq_false (by omega)
  have hmod : ((s : Int) % ((nq : Int) + 1)) = (k : Int) + 1 := by exact_mod_cast h0
  have hw0 : wrap64 ((k : Int) + 1) = (k : Int) + 1 := by unfold wrap64; omega
  have hw1 : wrap64 (k : Int) = (k : Int) := by unfold wrap64; omega
  have hki : (0 : Int) ≤ (k : Int) := by omega
  have hki2 : (k : Int) < (nq : Int) := by omega
  clear h0
  go_enter Ybad.func3, Ybad.ntmps3
  go_wp2
  go_ret
  exact ⟨rfl, Below.refl _ _⟩
set_option maxHeartbeats 1000000 in
theorem val_long (ao qo : Option Addr) (cap nq cq s : Nat) (fr to : Int) (lb : List UInt8) (w : World) (hl : (1024 : Int) < lb.length) :
    Calls Ybad.prog 3 #[.slice ao lb.length cap, .slice qo nq cq, .int .u64 s, .int .i64 fr, .int .i64 to] w fun e w' => e = .returned (.bool true) ∧ Below w.heap.size w w' := by
  go_enter Ybad.func3, Ybad.ntmps3
  go_wp2
  go_ret
  exact ⟨rfl, Below.refl _ _⟩
set_option maxHeartbeats 1000000 in
theorem val_long2 (ao qo : Option Addr) (cap nq cq s : Nat) (fr to : Int) (lb : List UInt8) (w : World) (hlb : lb.length ≤ 1024) (hl : (1024 : Int) < nq) :
    Calls Ybad.prog 3 #[.slice ao lb.length cap, .slice qo nq cq, .int .u64 s, .int .i64 fr, .int .i64 to] w fun e w' => e = .returned (.bool true) ∧ Below w.heap.size w w' := by
  have hd0 : decide ((1024 : Int) < (lb.length : Int)) = false := decide_eq_false (by omega)
  go_enter Ybad.func3, Ybad.ntmps3
  go_wp2
  go_ret
  exact ⟨rfl, Below.refl _ _⟩

/-- A slice of slices of bytes that came in. -/
def Rowed (w : World) (qo : Option Addr) (nq : Nat) : Prop :=
  ∀ k, k < nq → ∃ ad ar cr q, qo = some ad ∧ w.cell? (ad.add k) = some (.slice ar q.length cr) ∧ Src w ar cr q

theorem law_val_any (ao qo : Option Addr) (cap nq cq s : Nat) (fr to : Int) (lb : List UInt8) (w : World) (hsrc : Src w ao cap lb) (hr : Rowed w qo nq) :
    Calls Ybad.prog 3 #[.slice ao lb.length cap, .slice qo nq cq, .int .u64 s, .int .i64 fr, .int .i64 to] w fun e w' => e = .returned (.bool true) ∧ Below w.heap.size w w' := by
  by_cases hl : lb.length ≤ 1024
  · by_cases hq : nq ≤ 1024
    · rcases hm : s % (nq + 1) with _ | k
      · exact law_val0 ao qo cap nq cq s fr to lb w hl hq hsrc hm
      · have hk : k < nq := by
          have := Nat.mod_lt s (show 0 < nq + 1 by omega)
          omega
        obtain ⟨ad, ar, cr, q, rfl, hc, hs⟩ := hr k hk
        by_cases h4 : q.length ≤ 4096
        · exact law_valk ao ar ad cap nq cq s k cr fr to lb q w hl hq hsrc hm hk hc hs h4
        · exact val_longq ao ar ad cap nq cq s k cr q.length fr to lb w hl hq hm hk hc (by omega)
    · exact val_long2 ao qo cap nq cq s fr to lb w hl (by omega)
  · exact val_long ao qo cap nq cq s fr to lb w (by omega)
end Go.Proofs.YbulkaqysDoor
