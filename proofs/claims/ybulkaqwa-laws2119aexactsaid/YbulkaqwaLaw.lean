/-
  THE LAW's WALK: LawS2119AExact returns true; below the heap's old size nothing has turned.
-/
import Derived.Test.YbulkaqwaExpect
import Derived.WalkSpells
namespace Go.Proofs.Ybulkaqwa
open Go Go.RowKit

set_option maxHeartbeats 1000000 in
theorem equal_same (B B' : Nat) (v v' : Value) (l : List UInt8) (w : World) (h : Own w B v l) (h' : Own w B' v' l) :
    Calls Yba.prog 6 #[v, v'] w fun e w' => e = .returned (.bool true) ∧ w' = w := by
  have c1 := h.convert byt
  have c2 := h'.convert byt
  clear h h'
  go_enter Yba.func6, Yba.ntmps6
  go_wp2
  go_ret
  exact ⟨rfl, rfl⟩

theorem Yba.info23 : (Yba.prog.info? 23).map (·.size) = some 20 := by kernel_rfl

theorem lists_agree (lb m : List UInt8) (st : ByteArray) : lb ++ [102, 111, 114, 101, 99, 97, 115, 116, 32] ++ [48, 120] ++ Lib.Hx.encode m ++ [32, 115, 116, 97, 116, 101, 61] ++ st.data.toList = lb ++ pre.data.toList ++ Lib.Hx.encode m ++ mid.data.toList ++ st.data.toList := by
  simp [pre, mid]

set_option maxHeartbeats 1000000 in
theorem law_long (ao : Option Addr) (cap : Nat) (lb : List UInt8) (st : ByteArray) (w : World) (cc : Array Value) (_hsz : cc.size = 20) (hl : (1024 : Int) < lb.length) :
    Calls Yba.prog 3 #[.slice ao lb.length cap, .agg cc, .string st] w fun e w' => e = .returned (.bool true) ∧ Below w.heap.size w w' := by
  go_enter Yba.func3, Yba.ntmps3
  go_wp2
  go_ret
  exact ⟨rfl, (Below.refl _ w).alloc (Nat.le_refl _) _⟩
set_option maxHeartbeats 1000000 in
theorem law_long2 (ao : Option Addr) (cap : Nat) (lb : List UInt8) (st : ByteArray) (w : World) (cc : Array Value) (_hsz : cc.size = 20) (hl : lb.length ≤ 1024) (hl2 : (1024 : Int) < st.size) :
    Calls Yba.prog 3 #[.slice ao lb.length cap, .agg cc, .string st] w fun e w' => e = .returned (.bool true) ∧ Below w.heap.size w w' := by
  have hd : decide ((1024 : Int) < (lb.length : Int)) = false := decide_eq_false (by omega)
  go_enter Yba.func3, Yba.ntmps3
  go_wp2
  go_ret
  exact ⟨rfl, (Below.refl _ w).alloc (Nat.le_refl _) _⟩

set_option maxHeartbeats 2000000 in
theorem law_nil (m : List UInt8) (st : ByteArray) (w : World) (cc : Array Value) (hm : m.length = 20) (hst : st.size ≤ 1024) (hcc : cc = (Lib.byteCells m).toArray) :
    Calls Yba.prog 3 #[.slice none 0 0, .agg cc, .string st] w fun e w' => e = .returned (.bool true) ∧ Below w.heap.size w w' := by
  have hsz : cc.size = 20 := by rw [hcc]; simp [byteCells_length, hm]
  have hi : (Yba.prog.info? 23).map (·.size) = some cc.size := by rw [hsz]; exact Yba.info23
  have hnn := fun w => run_neq_slice_nil_any (P := Yba.prog) w 22 5 none 0 0 0 0 Yba.underlying22
  have hd : decide ((1024 : Int) < (st.size : Int)) = false := decide_eq_false (by omega)
  have HC := Lib.hid hcc
  have HI := Lib.hid hi
  have HB := Lib.hid (heap_alloc_new w (.cells cc 23))
  clear hcc hi
  go_enter Yba.func3, Yba.ntmps3
  go_wp2_with (first
    | (refine wpList_load_row rfl 23 _ rfl w.heap.size rfl 23 cc (0, 0) _ HB.out Yba.underlying23 rfl HI.out ?_)
    | (go_at_call 4; refine (start_any (w.heap.size + 1) _ [] m st (w.alloc (.cells cc 23)) cc (Own.nil _ _) (by simp) hm (by simp; omega) HC.out).mono ?_; rintro e w2 ⟨v2, rfl, o2, f2⟩; refine Hid.out ?_))
  refine Lib.hid ?_
  have hb2 := Lib.hid (f2.box HB.out (by decide))
  have z2 : w.heap.size + 1 ≤ w2.heap.size := by have := f2.size; simpa using this
  go_wp2_with (first
    | (refine wpList_load_row rfl 23 _ rfl w.heap.size rfl 23 cc (0, 0) _ hb2.out Yba.underlying23 rfl HI.out ?_)
    | (go_at_call 5; refine (expect_any none 0 [] m st w2 cc hm (by simp) hst HC.out (.inl ⟨rfl, rfl, rfl⟩)).mono ?_; rintro e w3 ⟨v3, rfl, o3, f3⟩; refine Hid.out ?_))
  refine Lib.hid ?_
  have o2' : Own w3 (w.heap.size + 1) v2 _ := (lists_agree [] m st ▸ o2).below f3 (Nat.le_refl _)
  clear o2
  go_wp2_with (go_at_call 6; refine (equal_same _ _ _ _ _ w3 o2' o3).mono ?_; rintro e w4 ⟨rfl, rfl⟩; refine Hid.out ?_)
  refine Lib.hid ?_
  go_wp2
  go_ret
  exact ⟨rfl, ((Below.refl _ w).alloc (Nat.le_refl _) _).trans ((f2.1.mono (by omega)).trans (f3.mono (by omega)))⟩

set_option maxHeartbeats 2000000 in
theorem law_some (ad : Addr) (cap : Nat) (lb m : List UInt8) (st : ByteArray) (w : World) (cc : Array Value) (hm : m.length = 20) (hlb : lb.length ≤ 1024) (hst : st.size ≤ 1024) (hcc : cc = (Lib.byteCells m).toArray)
    (hsrc : Src w (some ad) cap lb) :
    Calls Yba.prog 3 #[.slice (some ad) lb.length cap, .agg cc, .string st] w fun e w' => e = .returned (.bool true) ∧ Below w.heap.size w w' := by
  have hsz : cc.size = 20 := by rw [hcc]; simp [byteCells_length, hm]
  have hi : (Yba.prog.info? 23).map (·.size) = some cc.size := by rw [hsz]; exact Yba.info23
  have hnn := fun w => run_neq_slice_nil_any (P := Yba.prog) w 22 5 (some ad) lb.length cap 0 0 Yba.underlying22
  have hd0 : decide ((1024 : Int) < (lb.length : Int)) = false := decide_eq_false (by omega)
  have hd : decide ((1024 : Int) < (st.size : Int)) = false := decide_eq_false (by omega)
  have HC := Lib.hid hcc
  have HI := Lib.hid hi
  have HB := Lib.hid (heap_alloc_new w (.cells cc 23))
  have bel0 : Below w.heap.size w (w.alloc (.cells cc 23)) := (Below.refl _ w).alloc (Nat.le_refl _) _
  clear hcc hi
  have ob : Own ((w.alloc (.cells cc 23)).alloc (.cells #[] 5)) (w.heap.size + 1) (.slice (some ⟨w.heap.size + 1, 0, none⟩) 0 0) [] := by
    have := World.ownsRow_made (base := w.heap.size + 1) (e := 5) (size := 1) (w.alloc (.cells cc 23)) #[] 0 (by simp) (by unfold maxLen; omega) (by simp)
    simpa [Own, Lib.byteCells] using this
  have s1 : Src ((w.alloc (.cells cc 23)).alloc (.cells #[] 5)) (some ad) cap lb := hsrc.below (B := w.heap.size) (bel0.alloc (by simp) _) (Nat.le_refl _)
  go_enter Yba.func3, Yba.ntmps3
  go_wp2_with (at_builtin; refine wpList_app_src byt rfl _ _ rfl (w.heap.size + 1) _ _ rfl ob _ _ _ rfl s1 ?_ ?_ ?_)
  · simp; omega
  · simp
  intro v1 w1 o1 f1
  have g1 : Fr (w.heap.size + 1) (w.alloc (.cells cc 23)) w1 := ((Fr.refl _ _).alloc (by simp) _).trans f1
  have hb1 := Lib.hid (g1.box HB.out (by decide))
  have z1 : w.heap.size + 1 ≤ w1.heap.size := by have := g1.size; simpa using this
  clear f1 ob s1
  go_wp2_with (first
    | (refine wpList_load_row rfl 23 _ rfl w.heap.size rfl 23 cc (0, 0) _ hb1.out Yba.underlying23 rfl HI.out ?_)
    | (go_at_call 4; refine (start_any (w.heap.size + 1) _ lb m st w1 cc o1 z1 hm (by omega) HC.out).mono ?_; rintro e w2 ⟨v2, rfl, o2, f2⟩; refine Hid.out ?_))
  refine Lib.hid ?_
  have g2 := g1.trans f2
  have hb2 := Lib.hid (g2.box HB.out (by decide))
  have z2 : w.heap.size + 1 ≤ w2.heap.size := by have := g2.size; simpa using this
  have s2 : Src w2 (some ad) cap lb := hsrc.below (B := w.heap.size) (bel0.trans (g2.1.mono (by omega))) (Nat.le_refl _)
  clear f2 o1 hb1
  go_wp2_with (first
    | (refine wpList_load_row rfl 23 _ rfl w.heap.size rfl 23 cc (0, 0) _ hb2.out Yba.underlying23 rfl HI.out ?_)
    | (go_at_call 5; refine (expect_any (some ad) cap lb m st w2 cc hm hlb hst HC.out s2).mono ?_; rintro e w3 ⟨v3, rfl, o3, f3⟩; refine Hid.out ?_))
  refine Lib.hid ?_
  have o2' : Own w3 (w.heap.size + 1) v2 _ := (lists_agree lb m st ▸ o2).below f3 (Nat.le_refl _)
  clear o2
  go_wp2_with (go_at_call 6; refine (equal_same _ _ _ _ _ w3 o2' o3).mono ?_; rintro e w4 ⟨rfl, rfl⟩; refine Hid.out ?_)
  refine Lib.hid ?_
  go_wp2
  go_ret
  exact ⟨rfl, bel0.trans ((g2.1.mono (by omega)).trans (f3.mono (by omega)))⟩

theorem law_any (ao : Option Addr) (cap : Nat) (lb m : List UInt8) (st : ByteArray) (w : World) (cc : Array Value) (hm : m.length = 20) (hcc : cc = (Lib.byteCells m).toArray) (hsrc : Src w ao cap lb) :
    Calls Yba.prog 3 #[.slice ao lb.length cap, .agg cc, .string st] w fun e w' => e = .returned (.bool true) ∧ Below w.heap.size w w' := by
  have hsz : cc.size = 20 := by rw [hcc]; simp [byteCells_length, hm]
  by_cases h1 : 1024 < lb.length
  · exact law_long ao cap lb st w cc hsz (by omega)
  by_cases h2 : 1024 < st.size
  · exact law_long2 ao cap lb st w cc hsz (by omega) (by omega)
  rcases hsrc with ⟨rfl, rfl, rfl⟩ | ⟨ad, rfl, hr⟩
  · exact law_nil m st w cc hm (by omega) hcc
  · exact law_some ad cap lb m st w cc hm (by omega) (by omega) hcc (.inr ⟨ad, rfl, hr⟩)
end Go.Proofs.Ybulkaqwa
