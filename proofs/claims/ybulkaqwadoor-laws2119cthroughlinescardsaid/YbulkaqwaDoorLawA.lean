/-
  THE WALK OF LawS2119CLine: a line by appendLine, a line by the expected text, and that the two are one.
-/
import Derived.Test.YbulkaqwaDoorExpect
import Derived.Deep.DrawnRows
namespace Go.Proofs.YbulkaqwaDoor
open Go Go.RowKit

theorem list20 (m : List UInt8) (hm : m.length = 20) : ∃ b0 b1 b2 b3 b4 b5 b6 b7 b8 b9 b10 b11 b12 b13 b14 b15 b16 b17 b18 b19, m = [b0, b1, b2, b3, b4, b5, b6, b7, b8, b9, b10, b11, b12, b13, b14, b15, b16, b17, b18, b19] := by
  match m, hm with
  | [b0, b1, b2, b3, b4, b5, b6, b7, b8, b9, b10, b11, b12, b13, b14, b15, b16, b17, b18, b19], _ => exact ⟨_, _, _, _, _, _, _, _, _, _, _, _, _, _, _, _, _, _, _, _, rfl⟩
theorem built27' (b0 b1 b2 b3 b4 b5 b6 b7 b8 b9 b10 b11 b12 b13 b14 b15 b16 b17 b18 b19 : UInt8) (a : Nat) : Ybad.prog.built 27 [(0, .agg (Lib.byteCells [b0, b1, b2, b3, b4, b5, b6, b7, b8, b9, b10, b11, b12, b13, b14, b15, b16, b17, b18, b19]).toArray), (1, .int .u64 (a : Int))] = some (sc [b0, b1, b2, b3, b4, b5, b6, b7, b8, b9, b10, b11, b12, b13, b14, b15, b16, b17, b18, b19] a) := by kernel_rfl
theorem built27 (m : List UInt8) (a : Nat) (hm : m.length = 20) : Ybad.prog.built 27 [(0, .agg (Lib.byteCells m).toArray), (1, .int .u64 (a : Int))] = some (sc m a) := by
  obtain ⟨b0, b1, b2, b3, b4, b5, b6, b7, b8, b9, b10, b11, b12, b13, b14, b15, b16, b17, b18, b19, rfl⟩ := list20 m hm
  exact built27' _ _ _ _ _ _ _ _ _ _ _ _ _ _ _ _ _ _ _ _ _

/-- A struct built out of parts: what it comes to is handed in. -/
theorem wpList_build_to {P : Program} {ops : Array Oper} {rest : List Oper} {o : Oper} {a : Act} {w : World} {Q : Exit → Act → World → Prop} (hg : o.guard = none) (t : TypeId) (parts : Array (Nat × Operand)) (ho : o.op = .build t parts)
    (vs : List (Nat × Value)) (hv : (parts.map fun (i, x) => (i, a.eval x)).toList = vs) (cs : Array Value) (hb : P.built t vs = some cs)
    (h : wpList P ops Q rest (a.put o.dst (.agg cs)) w) : wpList P ops Q (o :: rest) a w := by
  refine wpList_build hg t parts ho (by rw [hv, hb]; rfl) ?_
  rw [hv, hb]
  exact h

def Z27 : Array Value := Z.push (.int .u64 0)
theorem Ybad.info27 : (Ybad.prog.info? 27).map (·.size) = some 21 := by kernel_rfl
theorem sc_one (m : List UInt8) (a : Nat) : (sc m a).all (·.oneCell') = true := by
  rw [Array.all_eq_true_iff_forall_mem]
  intro u hu
  simp only [sc, List.mem_toArray, List.mem_append, List.mem_singleton] at hu
  rcases hu with hu | rfl
  · exact byteCells_oneCell m u hu
  · rfl

theorem appendLine_cl (m : List UInt8) (a : Nat) (cl : List Value) (hcl : cl = Lib.byteCells m ++ [Value.int .u64 (a : Int)]) (B : Nat) (v : Value) (l : List UInt8) (g hh : Nat) (act ev : Value) (w : World) (hown : Own w B v l) (hB : B ≤ w.heap.size) (hB1 : 1 < B) (hm : m.length = 20) (ha : a < 18446744073709551616) (hg : g < 18446744073709551616) (hlim : l.length + 10000 ≤ 140737488355328) (ht : Tab w) :
    Calls Ybad.prog 5 #[.agg cl.toArray, v, .agg #[.int .u64 hh, act, .nilIface, .int .u64 g, ev]] w fun e w' => ∃ v', e = .returned v' ∧ Own w' B v' (l ++ lineOf m a g) ∧ Fr B w w' := by
  subst hcl
  exact appendLine_any B v l m a g hh act ev w hown hB hB1 hm ha hg hlim ht
theorem rangeAt_row {w : World} {b : Nat} {cs : List Value} {t : TypeId} {fz : Nat × Nat} (h : w.heap[b]? = some (.cells cs.toArray t fz)) : w.rangeAt b 0 cs := fun j v hv => by
  rw [cell_of_row w _ _ _ _ _ h]
  simpa using hv
theorem Ybad.info34 : (Ybad.prog.info? 34).map (·.size) = some 5 := by kernel_rfl

set_option maxHeartbeats 4000000 in
set_option maxRecDepth 100000 in
set_option linter.unusedSimpArgs false in
theorem law_line (ao : Option Addr) (cap : Nat) (lb m : List UInt8) (a g hh : Nat) (w : World) (cc : Array Value) (hm : m.length = 20) (hlb : lb.length ≤ 1024) (ha : a < 18446744073709551616) (hg : g < 18446744073709551616) (hcc : cc = (Lib.byteCells m).toArray) (hsrc : Src w ao cap lb) (ht : Tab w) (h1 : 1 < w.heap.size) :
    Calls Ybad.prog 3 #[.slice ao lb.length cap, .agg cc, .int .u64 a, .int .u64 g, .int .u64 hh] w fun e w' => e = .returned (.bool true) ∧ Below w.heap.size w w' := by
  have hsz : cc.size = 20 := by rw [hcc]; simp [byteCells_length, hm]
  have HI := Lib.hid (show (Ybad.prog.info? 23).map (·.size) = some cc.size by rw [hsz]; exact Ybad.info23)
  have hd0 : decide ((1024 : Int) < (lb.length : Int)) = false := decide_eq_false (by omega)
  have HC := Lib.hid hcc
  have HB := Lib.hid (heap_alloc_new w (.cells cc 23))
  obtain ⟨cl, hcl⟩ : ∃ cl, cl = Lib.byteCells m ++ [Value.int .u64 (a : Int)] := ⟨_, rfl⟩
  obtain ⟨cs, hcs0⟩ : ∃ cs, cs = cl.toArray := ⟨_, rfl⟩
  have hcs : cs = sc m a := by rw [hcs0, hcl]; rfl
  have hcll : cl.length = 21 := by rw [hcl, List.length_append, byteCells_length, hm]; rfl
  have HCL := Lib.hid hcs0
  have hb27 : Ybad.prog.built 27 [(0, .agg cc), (1, .int .u64 (a : Int))] = some cs := by rw [hcs, hcc]; exact built27 m a hm
  have HB27 := Lib.hid hb27
  have HCS := Lib.hid hcs
  have HZ := Lib.hid (show Z27.size = cs.size by rw [hcs, sc_size m a hm]; rfl)
  have HI27 := Lib.hid (show (Ybad.prog.info? 27).map (·.size) = some cs.size by rw [hcs, sc_size m a hm]; exact Ybad.info27)
  have HO := Lib.hid (show cs.all (·.oneCell') = true by rw [hcs]; exact sc_one m a)
  have HN := Lib.hid (heap_alloc2_new w (.cells cc 23) (.cells Z27 27))
  have HT := Lib.hid ht
  have HLN := Lib.hid (appendLine_cl m a cl hcl)
  clear hcc hcs hb27 ht hcs0 hcl
  go_enter Ybad.func3, Ybad.ntmps3
  go_wp2_with (first
    | (refine wpList_load_row rfl 23 _ rfl w.heap.size rfl 23 cc (0, 0) _ HB.out Ybad.underlying23 rfl HI.out ?_)
    | (refine wpList_build_to (o := { dst := some 20, op := Op.build 27 #[(0, Operand.tmp 18), (1, Operand.tmp 19)], type := 27, pos := _, after := _, guard := none }) rfl 27 _ rfl [(0, .agg cc), (1, .int .u64 (a : Int))] (by simp; exact ⟨rfl, rfl⟩) cs HB27.out ?_)
    | (refine wpList_store_row (w := (w.alloc (.cells cc 23)).alloc (.cells Z27 27)) rfl 27 _ _ rfl (w.heap.size + 1) cs rfl rfl 27 Z27 HN.out HI27.out HZ.out HO.out ?_; refine Hid.out ?_))
  refine Lib.hid ?_
  have hs27 := setRow_heap ((w.alloc (.cells cc 23)).alloc (.cells Z27 27)) (w.heap.size + 1) Z27 cs 27 (0, 0) HN.out
  have hs23 : (((w.alloc (.cells cc 23)).alloc (.cells Z27 27)).setRow (w.heap.size + 1) cs).heap[w.heap.size]? = some (.cells cc 23 (0, 0)) := by
    rw [setRow_other _ _ _ _ (by omega)]
    exact heap_alloc2_old w _ _
  have hsz1 : (((w.alloc (.cells cc 23)).alloc (.cells Z27 27)).setRow (w.heap.size + 1) cs).heap.size = w.heap.size + 2 := by simp
  have bel1 : Below w.heap.size w (((w.alloc (.cells cc 23)).alloc (.cells Z27 27)).setRow (w.heap.size + 1) cs) :=
    (((Below.refl _ w).alloc (Nat.le_refl _) _).alloc (by simp) _).trans ⟨rfl, rfl, rfl, by simp, fun k hk => setRow_other _ _ k cs (by omega)⟩
  generalize hW1 : ((w.alloc (.cells cc 23)).alloc (.cells Z27 27)).setRow (w.heap.size + 1) cs = W1 at hs27 hs23 hsz1 bel1 ⊢
  clear hW1 HN HB
  have HSZ1 := Lib.hid hsz1
  have HS27 := Lib.hid hs27
  have HS23 := Lib.hid hs23
  clear hsz1 hs27 hs23
  go_wp2
  rw [HSZ1.out]
  have hn34 := heap_alloc_new W1 (.cells #[.int .u64 hh, .nilIface, .nilIface, .int .u64 g, .slice none 0 0] 34)
  have hn27 := (heap_alloc_old W1 (.cells #[.int .u64 hh, .nilIface, .nilIface, .int .u64 g, .slice none 0 0] 34) (show w.heap.size + 1 < W1.heap.size by rw [HSZ1.out]; omega)).trans HS27.out
  have hn23 := (heap_alloc_old W1 (.cells #[.int .u64 hh, .nilIface, .nilIface, .int .u64 g, .slice none 0 0] 34) (show w.heap.size < W1.heap.size by rw [HSZ1.out]; omega)).trans HS23.out
  have bel2 : Below w.heap.size w (W1.alloc (.cells #[.int .u64 hh, .nilIface, .nilIface, .int .u64 g, .slice none 0 0] 34)) := bel1.alloc (by rw [HSZ1.out]; omega) _
  have hz2 : (W1.alloc (.cells #[.int .u64 hh, .nilIface, .nilIface, .int .u64 g, .slice none 0 0] 34)).heap.size = w.heap.size + 3 := by simp [HSZ1.out]
  rw [HSZ1.out] at hn34
  generalize hW2 : W1.alloc (.cells #[.int .u64 hh, .nilIface, .nilIface, .int .u64 g, .slice none 0 0] 34) = W2 at hn34 hn27 hn23 bel2 hz2 ⊢
  clear hW2 HSZ1 HS27 HS23 bel1
  have s2 : Src W2 ao cap lb := hsrc.below bel2 (Nat.le_refl _)
  have HT2 := Lib.hid (HT.out.below bel2 h1)
  have hkeep : ∀ W' : World, Fr W2.heap.size W2 W' → W'.rangeAt (w.heap.size + 1) 0 cl ∧ W'.rangeAt (w.heap.size + 2) 0 [.int .u64 hh, .nilIface, .nilIface, .int .u64 g, .slice none 0 0] := by
    intro W' hf
    have k27 := hf.box hn27 (by decide)
    have k34 := hf.box hn34 (by decide)
    rw [HCL.out] at k27
    exact ⟨rangeAt_row k27, rangeAt_row k34⟩
  have hkeep23 : ∀ W' : World, Fr W2.heap.size W2 W' → W'.rangeAt w.heap.size 0 (Lib.byteCells m) := by
    intro W' hf
    have k23 := hf.box hn23 (by decide)
    rw [HC.out] at k23
    exact rangeAt_row k23
  have HK := Lib.hid hkeep
  have HK23 := Lib.hid hkeep23
  have hB3 : 1 < W2.heap.size := by omega
  clear hkeep hkeep23 hn27 hn34 hn23
  have HICL := Lib.hid (show (Ybad.prog.info? 27).map (·.size) = some cl.length by rw [hcll]; exact Ybad.info27)
  refine wp_region_noPanic ?_
  refine wp_region_held_drew (S := fun w' => w'.rangeAt (w.heap.size + 1) 0 cl ∧ w'.rangeAt (w.heap.size + 2) 0 [.int .u64 hh, .nilIface, .nilIface, .int .u64 g, .slice none 0 0]) (by kernel_rfl) (HK.out _ (Fr.refl _ _).drew) (fun hH => ?_)
  refine wpAnyH_take (i := 0) (oi := _) (v := _) rfl (by kernel_rfl) (by kernel_rfl) (by kernel_rfl) (fun _ _ _ h => h) (yieldsIf_load_mid (by rfl) _ _ rfl _ _ rfl cl _ (fun _ h => h.1) Ybad.underlying27 rfl HICL.out) hH ?_
  simp only [Act.put, List.setIfInBounds_toArray, List.set_cons_zero, List.set_cons_succ]
  refine wpAnyH_take (i := 1) (oi := _) (v := _) rfl (by kernel_rfl) (by kernel_rfl) (by kernel_rfl) (fun _ _ _ h => h) (Or.inl ⟨by rfl, fun _ _ => rfl⟩) hH ?_
  simp only [Act.put, List.setIfInBounds_toArray, List.set_cons_zero, List.set_cons_succ]
  refine wpAnyH_take (i := 3) (oi := _) (v := _) rfl (by kernel_rfl) (by kernel_rfl) (by kernel_rfl) (fun _ _ _ h => h) (yieldsIf_load_mid (by rfl) _ _ rfl _ _ rfl [.int .u64 hh, .nilIface, .nilIface, .int .u64 g, .slice none 0 0] _ (fun _ h => h.2) Ybad.underlying34 rfl Ybad.info34) hH ?_
  simp only [Act.put, List.setIfInBounds_toArray, List.set_cons_zero, List.set_cons_succ]
  refine wpAnyH_ready (rs := [2]) (by kernel_rfl) (by simp) ?_
  refine AllReadyH.cons (o := _) rfl (fun K hK => ?_) AllReadyH.nil
  go_simp
  go_at_call 6
  refine (copy_any ao cap lb W2.drew hlb s2).mono ?_
  rintro e w3 ⟨v3, rfl, o3', f3'⟩
  have o3 : Own w3 W2.heap.size v3 lb := o3'
  have f3 : Fr W2.heap.size W2 w3 := (Fr.refl _ _).drew.trans f3'
  clear o3' f3' hH
  have t3 := Lib.hid (HT2.out.below f3.1 hB3)
  refine hK.out _ _ (HK.out _ f3) (fun hH => ?_)
  clear hK
  refine wpAnyH_ready (rs := [4]) (by kernel_rfl) (by simp) ?_
  refine AllReadyH.cons (o := _) rfl (fun K hK => ?_) AllReadyH.nil
  go_simp
  go_at_call 5
  refine (HLN.out W2.heap.size v3 lb g hh _ _ w3 o3 f3.size hB3 hm ha hg (by omega) t3.out).mono ?_
  rintro e w4 ⟨v4, rfl, o4, f4'⟩
  have f4 : Fr W2.heap.size W2 w4 := f3.trans f4'
  clear f4' hH o3 f3 t3
  refine hK.out _ _ (HK.out _ f4) (fun hH => ?_)
  clear hK
  refine wpAnyH_take (i := 5) (oi := { dst := some 13, op := .assign (.tmp 28), type := 22, pos := _, after := _, guard := none }) (v := v4) rfl (by kernel_rfl) (by kernel_rfl) (by kernel_rfl) (fun _ _ _ h => h) (Or.inl ⟨by rfl, fun _ _ => rfl⟩) hH ?_
  simp only [Act.put, List.setIfInBounds_toArray, List.set_cons_zero, List.set_cons_succ]
  refine wpAnyH_done (by kernel_rfl) ?_ _
  refine NoPanic.normal ?_
  clear hH
  go_wp2
  have s4 : Src w4 ao cap lb := s2.below f4.1 (Nat.le_refl _)
  have HI23 := Lib.hid (show (Ybad.prog.info? 23).map (·.size) = some (Lib.byteCells m).length by rw [byteCells_length, hm]; exact Ybad.info23)
  refine wp_region_noPanic ?_
  refine wp_region_held_drew (S := fun w' => w'.rangeAt w.heap.size 0 (Lib.byteCells m)) (by kernel_rfl) (HK23.out _ f4.drew) (fun hH => ?_)
  refine wpAnyH_take (i := 0) (oi := { dst := some 29, op := .move (.tmp 0), type := 22, pos := _, after := _, guard := none }) (v := .slice ao lb.length cap) rfl (by kernel_rfl) (by kernel_rfl) (by kernel_rfl) (fun _ _ _ h => h) (Or.inl ⟨by rfl, fun _ _ => rfl⟩) hH ?_
  simp only [Act.put, List.setIfInBounds_toArray, List.set_cons_zero, List.set_cons_succ]
  refine wpAnyH_take (i := 2) (oi := { dst := some 31, op := .load 23 (.tmp 6), type := 23, pos := _, after := _, guard := none }) (v := _) rfl (by kernel_rfl) (by kernel_rfl) (by kernel_rfl) (fun _ _ _ h => h) (yieldsIf_load_mid (by rfl) _ _ rfl _ _ rfl (Lib.byteCells m) _ (fun _ h => h) Ybad.underlying23 rfl HI23.out) hH ?_
  simp only [Act.put, List.setIfInBounds_toArray, List.set_cons_zero, List.set_cons_succ]
  refine wpAnyH_take (i := 3) (oi := { dst := some 32, op := .move (.tmp 2), type := 24, pos := _, after := _, guard := none }) (v := .int .u64 (a : Int)) rfl (by kernel_rfl) (by kernel_rfl) (by kernel_rfl) (fun _ _ _ h => h) (Or.inl ⟨by rfl, fun _ _ => rfl⟩) hH ?_
  simp only [Act.put, List.setIfInBounds_toArray, List.set_cons_zero, List.set_cons_succ]
  refine wpAnyH_take (i := 4) (oi := { dst := some 33, op := .move (.tmp 3), type := 24, pos := _, after := _, guard := none }) (v := .int .u64 (g : Int)) rfl (by kernel_rfl) (by kernel_rfl) (by kernel_rfl) (fun _ _ _ h => h) (Or.inl ⟨by rfl, fun _ _ => rfl⟩) hH ?_
  simp only [Act.put, List.setIfInBounds_toArray, List.set_cons_zero, List.set_cons_succ]
  refine wpAnyH_ready (rs := [1]) (by kernel_rfl) (by simp) ?_
  refine AllReadyH.cons (o := _) rfl (fun K hK => ?_) AllReadyH.nil
  go_simp
  go_at_call 6
  refine (copy_any ao cap lb w4.drew hlb s4).mono ?_
  rintro e w5 ⟨v5, rfl, o5', f5'⟩
  have o5 : Own w5 w4.heap.size v5 lb := o5'
  have f5 : Fr w4.heap.size w4 w5 := (Fr.refl _ _).drew.trans f5'
  clear o5' f5' hH
  refine hK.out _ _ (HK23.out _ (f4.trans (f5.mono f4.size))) (fun hH => ?_)
  clear hK
  refine wpAnyH_ready (rs := [5]) (by kernel_rfl) (by simp) ?_
  refine AllReadyH.cons (o := _) rfl (fun K hK => ?_) AllReadyH.nil
  go_simp
  go_at_call 7
  refine (line_any w4.heap.size v5 lb m a g w5 _ o5 f5.size hm ha hg (by omega) rfl).mono ?_
  rintro e w6 ⟨v6, rfl, o6, f6'⟩
  have f6 : Fr w4.heap.size w4 w6 := f5.trans f6'
  clear f6' hH o5 f5
  refine hK.out _ _ (HK23.out _ (f4.trans (f6.mono f4.size))) (fun hH => ?_)
  clear hK
  refine wpAnyH_take (i := 6) (oi := { dst := some 14, op := .assign (.tmp 34), type := 22, pos := _, after := _, guard := none }) (v := v6) rfl (by kernel_rfl) (by kernel_rfl) (by kernel_rfl) (fun _ _ _ h => h) (Or.inl ⟨by rfl, fun _ _ => rfl⟩) hH ?_
  simp only [Act.put, List.setIfInBounds_toArray, List.set_cons_zero, List.set_cons_succ]
  refine wpAnyH_done (by kernel_rfl) ?_ _
  refine NoPanic.normal ?_
  clear hH
  have o4' := o4.below f6.1 (Nat.le_refl _)
  have bel6 : Below w.heap.size w w6 := bel2.trans ((f4.trans (f6.mono f4.size)).1.mono (by omega))
  go_wp2_with (go_at_call 8; refine (equal_same W2.heap.size w4.heap.size v4 v6 _ w6 o4' o6).mono ?_; rintro e w7 ⟨rfl, rfl⟩)
  go_ret
  exact ⟨rfl, bel6⟩
set_option maxHeartbeats 1000000 in
theorem law_line_long (ao : Option Addr) (cap : Nat) (lb : List UInt8) (a g hh : Nat) (w : World) (cc : Array Value) (_hsz : cc.size = 20) (hl : (1024 : Int) < lb.length) :
    Calls Ybad.prog 3 #[.slice ao lb.length cap, .agg cc, .int .u64 a, .int .u64 g, .int .u64 hh] w fun e w' => e = .returned (.bool true) ∧ Below w.heap.size w w' := by
  go_enter Ybad.func3, Ybad.ntmps3
  go_wp2
  go_ret
  exact ⟨rfl, (Below.refl _ w).alloc (Nat.le_refl _) _⟩
theorem law_line_any (ao : Option Addr) (cap : Nat) (lb m : List UInt8) (a g hh : Nat) (w : World) (cc : Array Value) (hm : m.length = 20) (ha : a < 18446744073709551616) (hg : g < 18446744073709551616) (hcc : cc = (Lib.byteCells m).toArray) (hsrc : Src w ao cap lb) (ht : Tab w) (h1 : 1 < w.heap.size) :
    Calls Ybad.prog 3 #[.slice ao lb.length cap, .agg cc, .int .u64 a, .int .u64 g, .int .u64 hh] w fun e w' => e = .returned (.bool true) ∧ Below w.heap.size w w' := by
  by_cases hl : lb.length ≤ 1024
  · exact law_line ao cap lb m a g hh w cc hm hl ha hg hcc hsrc ht h1
  · exact law_line_long ao cap lb a g hh w cc (by rw [hcc]; simp [byteCells_length, hm]) (by omega)
end Go.Proofs.YbulkaqwaDoor
