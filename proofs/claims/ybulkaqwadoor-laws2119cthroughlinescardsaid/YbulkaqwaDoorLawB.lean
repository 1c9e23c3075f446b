/-
  THE WALK OF LawS2119CThroughLines.
-/
import Derived.Test.YbulkaqwaDoorLines
namespace Go.Proofs.YbulkaqwaDoor
open Go Go.RowKit

set_option maxHeartbeats 4000000 in
set_option maxRecDepth 100000 in
set_option linter.unusedSimpArgs false in
theorem law_through (ao : Option Addr) (cap : Nat) (lb m : List UInt8) (a g hh : Nat) (w : World) (cc : Array Value) (hm : m.length = 20) (hlb : lb.length ≤ 1024) (ha : a < 18446744073709551616) (hg : g < 18446744073709551616) (hh' : hh < 18446744073709551616) (hcc : cc = (Lib.byteCells m).toArray) (hsrc : Src w ao cap lb) (ht : Tab w) (h1 : 1 < w.heap.size) :
    Calls Ybad.prog 4 #[.slice ao lb.length cap, .agg cc, .int .u64 a, .int .u64 g, .int .u64 hh] w fun e w' => e = .returned (.bool true) ∧ Below w.heap.size w w' := by
  have hsz : cc.size = 20 := by rw [hcc]; simp [byteCells_length, hm]
  have HI := Lib.hid (show (Ybad.prog.info? 23).map (·.size) = some cc.size by rw [hsz]; exact Ybad.info23)
  have hd0 : decide ((1024 : Int) < (lb.length : Int)) = false := decide_eq_false (by omega)
  have HC := Lib.hid hcc
  have HB := Lib.hid (heap_alloc_new w (.cells cc 23))
  obtain ⟨cl, hcl⟩ : ∃ cl, cl = Lib.byteCells m ++ [Value.int .u64 (a : Int)] := ⟨_, rfl⟩
  have hcs : cl.toArray = sc m a := by rw [hcl]; rfl
  have hcll : cl.length = 21 := by rw [hcl, List.length_append, byteCells_length, hm]; rfl
  have hb27 : Ybad.prog.built 27 [(0, .agg cc), (1, .int .u64 (a : Int))] = some cl.toArray := by rw [hcs, hcc]; exact built27 m a hm
  have HB27 := Lib.hid hb27
  have HCS := Lib.hid hcs
  have HZ := Lib.hid (show Z27.size = cl.toArray.size by rw [hcs, sc_size m a hm]; rfl)
  have HI27 := Lib.hid (show (Ybad.prog.info? 27).map (·.size) = some cl.toArray.size by rw [hcs, sc_size m a hm]; exact Ybad.info27)
  have HO := Lib.hid (show cl.toArray.all (·.oneCell') = true by rw [hcs]; exact sc_one m a)
  have HN := Lib.hid (heap_alloc2_new w (.cells cc 23) (.cells Z27 27))
  have HT := Lib.hid ht
  have HLN := Lib.hid (lines_any m a cl hcl)
  clear hcc hcs hb27 ht hcl
  go_enter Ybad.func4, Ybad.ntmps4
  go_wp2_with (first
    | (refine wpList_load_row rfl 23 _ rfl w.heap.size rfl 23 cc (0, 0) _ HB.out Ybad.underlying23 rfl HI.out ?_)
    | (refine wpList_build_to (o := { dst := some 20, op := Op.build 27 #[(0, Operand.tmp 18), (1, Operand.tmp 19)], type := 27, pos := _, after := _, guard := none }) rfl 27 _ rfl [(0, .agg cc), (1, .int .u64 (a : Int))] (by simp; exact ⟨rfl, rfl⟩) cl.toArray HB27.out ?_)
    | (refine wpList_store_row (w := (w.alloc (.cells cc 23)).alloc (.cells Z27 27)) rfl 27 _ _ rfl (w.heap.size + 1) cl.toArray rfl rfl 27 Z27 HN.out HI27.out HZ.out HO.out ?_; refine Hid.out ?_))
  refine Lib.hid ?_
  have hs27 := setRow_heap ((w.alloc (.cells cc 23)).alloc (.cells Z27 27)) (w.heap.size + 1) Z27 cl.toArray 27 (0, 0) HN.out
  have hs23 : (((w.alloc (.cells cc 23)).alloc (.cells Z27 27)).setRow (w.heap.size + 1) cl.toArray).heap[w.heap.size]? = some (.cells cc 23 (0, 0)) := by
    rw [setRow_other _ _ _ _ (by omega)]
    exact heap_alloc2_old w _ _
  have hsz1 : (((w.alloc (.cells cc 23)).alloc (.cells Z27 27)).setRow (w.heap.size + 1) cl.toArray).heap.size = w.heap.size + 2 := by simp
  have bel1 : Below w.heap.size w (((w.alloc (.cells cc 23)).alloc (.cells Z27 27)).setRow (w.heap.size + 1) cl.toArray) :=
    (((Below.refl _ w).alloc (Nat.le_refl _) _).alloc (by simp) _).trans ⟨rfl, rfl, rfl, by simp, fun k hk => setRow_other _ _ k cl.toArray (by omega)⟩
  generalize hW1 : ((w.alloc (.cells cc 23)).alloc (.cells Z27 27)).setRow (w.heap.size + 1) cl.toArray = W1 at hs27 hs23 hsz1 bel1 ⊢
  clear hW1 HN HB
  have HSZ1 := Lib.hid hsz1
  have HS27 := Lib.hid hs27
  have HS23 := Lib.hid hs23
  clear hsz1 hs27 hs23
  go_wp2_with (refine wpList_load_row rfl 27 _ rfl (w.heap.size + 1) rfl 27 cl.toArray (0, 0) _ HS27.out Ybad.underlying27 rfl HI27.out ?_; refine Hid.out ?_)
  refine Lib.hid ?_
  go_wp2
  rw [HSZ1.out]
  have hn34 := heap_alloc_new W1 (.cells #[.int .u64 hh, .iface 27 (.agg cl.toArray), .nilIface, .int .u64 g, .slice none 0 0] 34)
  have hn23 := (heap_alloc_old W1 (.cells #[.int .u64 hh, .iface 27 (.agg cl.toArray), .nilIface, .int .u64 g, .slice none 0 0] 34) (show w.heap.size < W1.heap.size by rw [HSZ1.out]; omega)).trans HS23.out
  have bel2 : Below w.heap.size w (W1.alloc (.cells #[.int .u64 hh, .iface 27 (.agg cl.toArray), .nilIface, .int .u64 g, .slice none 0 0] 34)) := bel1.alloc (by rw [HSZ1.out]; omega) _
  have hz2 : (W1.alloc (.cells #[.int .u64 hh, .iface 27 (.agg cl.toArray), .nilIface, .int .u64 g, .slice none 0 0] 34)).heap.size = w.heap.size + 3 := by simp [HSZ1.out]
  rw [HSZ1.out] at hn34
  generalize hW2 : W1.alloc (.cells #[.int .u64 hh, .iface 27 (.agg cl.toArray), .nilIface, .int .u64 g, .slice none 0 0] 34) = W2 at hn34 hn23 bel2 hz2 ⊢
  clear hW2 HSZ1 HS27 HS23 bel1
  have s2 : Src W2 ao cap lb := hsrc.below bel2 (Nat.le_refl _)
  have HT2 := Lib.hid (HT.out.below bel2 h1)
  have hkeep : ∀ W' : World, Fr W2.heap.size W2 W' → W'.rangeAt (w.heap.size + 2) 0 [.int .u64 hh, .iface 27 (.agg cl.toArray), .nilIface, .int .u64 g, .slice none 0 0] := fun W' hf => rangeAt_row (hf.box hn34 (by decide))
  have hkeep23 : ∀ W' : World, Fr W2.heap.size W2 W' → W'.heap[w.heap.size]? = some (.cells cc 23 (0, 0)) := fun W' hf => hf.box hn23 (by decide)
  have HK := Lib.hid hkeep
  have HK23 := Lib.hid hkeep23
  have hB3 : 1 < W2.heap.size := by omega
  clear hkeep hkeep23 hn34 hn23
  refine wp_region_noPanic ?_
  refine wp_region_held_drew (S := fun w' => w'.rangeAt (w.heap.size + 2) 0 [.int .u64 hh, .iface 27 (.agg cl.toArray), .nilIface, .int .u64 g, .slice none 0 0]) (by kernel_rfl) (HK.out _ (Fr.refl _ _).drew) (fun hH => ?_)
  refine wpAnyH_take (i := 0) (oi := { dst := some 26, op := .load 34 (.tmp 12), type := 34, pos := _, after := _, guard := none }) (v := _) rfl (by kernel_rfl) (by kernel_rfl) (by kernel_rfl) (fun _ _ _ h => h) (yieldsIf_load_mid (by rfl) _ _ rfl _ _ rfl [.int .u64 hh, .iface 27 (.agg cl.toArray), .nilIface, .int .u64 g, .slice none 0 0] _ (fun _ h => h) Ybad.underlying34 rfl Ybad.info34) hH ?_
  simp only [Act.put, List.setIfInBounds_toArray, List.set_cons_zero, List.set_cons_succ]
  refine wpAnyH_take (i := 1) (oi := { dst := some 27, op := .move (.tmp 0), type := 22, pos := _, after := _, guard := none }) (v := .slice ao lb.length cap) rfl (by kernel_rfl) (by kernel_rfl) (by kernel_rfl) (fun _ _ _ h => h) (Or.inl ⟨by rfl, fun _ _ => rfl⟩) hH ?_
  simp only [Act.put, List.setIfInBounds_toArray, List.set_cons_zero, List.set_cons_succ]
  refine wpAnyH_ready (rs := [2]) (by kernel_rfl) (by simp) ?_
  refine AllReadyH.cons (o := _) rfl (fun K hK => ?_) AllReadyH.nil
  go_simp
  go_at_call 6
  refine (copy_any ao cap lb W2.drew hlb s2).mono ?_
  rintro e w3 ⟨v3, rfl, o3', f3'⟩
  have o3 : Own w3 W2.heap.size v3 lb := o3'
  have f3 : Fr W2.heap.size W2 w3 := (Fr.refl _ _).drew.trans f3'
  clear o3' f3' hH
  have t3 := Lib.hid (HT2.out.below f3.1 hB3)
  refine hK.out _ _ (HK.out _ f3) (fun hH => ?_)
  clear hK
  refine wpAnyH_ready (rs := [3]) (by kernel_rfl) (by simp) ?_
  refine AllReadyH.cons (o := _) rfl (fun K hK => ?_) AllReadyH.nil
  go_simp
  go_at_call 9
  refine (HLN.out W2.heap.size v3 lb g hh w3 o3 f3.size hB3 hm ha hg hh' (by omega) t3.out).mono ?_
  rintro e w4 ⟨v4, rfl, o4, f4'⟩
  have f4 : Fr W2.heap.size W2 w4 := f3.trans f4'
  clear f4' hH o3 f3 t3
  refine hK.out _ _ (HK.out _ f4) (fun hH => ?_)
  clear hK
  refine wpAnyH_take (i := 4) (oi := { dst := some 13, op := .assign (.tmp 29), type := 22, pos := _, after := _, guard := none }) (v := v4) rfl (by kernel_rfl) (by kernel_rfl) (by kernel_rfl) (fun _ _ _ h => h) (Or.inl ⟨by rfl, fun _ _ => rfl⟩) hH ?_
  simp only [Act.put, List.setIfInBounds_toArray, List.set_cons_zero, List.set_cons_succ]
  refine wpAnyH_done (by kernel_rfl) ?_ _
  refine NoPanic.normal ?_
  clear hH
  have s4 : Src w4 ao cap lb := s2.below f4.1 (Nat.le_refl _)
  have hld := dec_len hh hh'
  have hll := lineOf_len m a g hm ha hg
  have HHH := Lib.hid hh'
  clear hh'
  go_wp2_with (first
    | (go_at_call 6; refine (copy_any ao cap lb w4 hlb s4).mono ?_; rintro e w5 ⟨v5, rfl, o5, f5⟩)
    | (go_at_call 10; refine (dec_any w4.heap.size v5 lb hh w5 o5 f5.size HHH.out (by omega)).mono ?_; rintro e w6 ⟨v6, rfl, o6, f6'⟩; refine Hid.out ?_))
  refine Lib.hid ?_
  have f6 : Fr w4.heap.size w4 w6 := f5.trans f6'
  have z6 := f6.size
  clear f6' o5 f5
  go_wp2_with (at_builtin; refine wpList_app_byte byt rfl _ _ rfl w4.heap.size _ _ rfl (o6.alloc _) w6.heap.size 1 32 rfl ?_ ?_ ?_ ?_)
  · simp
  · simp; omega
  · simp; omega
  intro v7 w7 o7 f7'
  have f7 : Fr w4.heap.size w4 w7 := (f6.alloc (by omega) _).trans f7'
  have z7 := f7.size
  have H23 := Lib.hid (HK23.out _ (f4.trans (f7.mono f4.size)))
  clear f7' o6 f6
  go_wp2_with (first
    | (refine wpList_load_row rfl 23 _ rfl w.heap.size rfl 23 cc (0, 0) _ H23.out Ybad.underlying23 rfl HI.out ?_)
    | (go_at_call 7; refine (line_any w4.heap.size v7 _ m a g w7 _ o7 (by omega) hm ha hg (by simp; omega) HC.out).mono ?_; rintro e w8 ⟨v8, rfl, o8, f8'⟩; refine Hid.out ?_))
  refine Lib.hid ?_
  have f8 : Fr w4.heap.size w4 w8 := f7.trans f8'
  have z8 := f8.size
  clear f8' o7 f7
  go_wp2_with (at_builtin; refine wpList_app_byte byt rfl _ _ rfl w4.heap.size _ _ rfl (o8.alloc _) w8.heap.size 1 10 rfl ?_ ?_ ?_ ?_)
  · simp
  · simp only [List.length_append, List.length_cons, List.length_nil]; omega
  · simp; omega
  intro v9 w9 o9 f9'
  have f9 : Fr w4.heap.size w4 w9 := (f8.alloc (by omega) _).trans f9'
  clear f9' o8 f8
  have o4' := o4.below f9.1 (Nat.le_refl _)
  have o9' : Own w9 w4.heap.size v9 (lb ++ Lib.decDigits hh ++ [32] ++ lineOf m a g ++ [10]) := by simpa using o9
  have bel9 : Below w.heap.size w w9 := bel2.trans ((f4.trans (f9.mono f4.size)).1.mono (by omega))
  clear o9 o4
  go_wp2_with (go_at_call 8; refine (equal_same W2.heap.size w4.heap.size v4 v9 _ w9 o4' o9').mono ?_; rintro e w10 ⟨rfl, rfl⟩)
  go_ret
  exact ⟨rfl, bel9⟩
set_option maxHeartbeats 1000000 in
theorem law_through_long (ao : Option Addr) (cap : Nat) (lb : List UInt8) (a g hh : Nat) (w : World) (cc : Array Value) (_hsz : cc.size = 20) (hl : (1024 : Int) < lb.length) :
    Calls Ybad.prog 4 #[.slice ao lb.length cap, .agg cc, .int .u64 a, .int .u64 g, .int .u64 hh] w fun e w' => e = .returned (.bool true) ∧ Below w.heap.size w w' := by
  go_enter Ybad.func4, Ybad.ntmps4
  go_wp2
  go_ret
  exact ⟨rfl, (Below.refl _ w).alloc (Nat.le_refl _) _⟩
theorem law_through_any (ao : Option Addr) (cap : Nat) (lb m : List UInt8) (a g hh : Nat) (w : World) (cc : Array Value) (hm : m.length = 20) (ha : a < 18446744073709551616) (hg : g < 18446744073709551616) (hh' : hh < 18446744073709551616) (hcc : cc = (Lib.byteCells m).toArray) (hsrc : Src w ao cap lb) (ht : Tab w) (h1 : 1 < w.heap.size) :
    Calls Ybad.prog 4 #[.slice ao lb.length cap, .agg cc, .int .u64 a, .int .u64 g, .int .u64 hh] w fun e w' => e = .returned (.bool true) ∧ Below w.heap.size w w' := by
  by_cases hl : lb.length ≤ 1024
  · exact law_through ao cap lb m a g hh w cc hm hl ha hg hh' hcc hsrc ht h1
  · exact law_through_long ao cap lb a g hh w cc (by rw [hcc]; simp [byteCells_length, hm]) (by omega)
end Go.Proofs.YbulkaqwaDoor
