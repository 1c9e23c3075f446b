/-
  THE LAW's WALK: LawS2119ARoundTrip returns true; below the heap's old size nothing has turned.
-/
import Derived.Test.YbulkaqwaFmtSub
namespace Go.Proofs.YbulkaqwaFmt
open Go Go.RowKit

/-- The line that appendForecastStart makes. -/
def line (lb m : List UInt8) (st : ByteArray) : List UInt8 := lb ++ [102, 111, 114, 101, 99, 97, 115, 116, 32] ++ [48, 120] ++ Lib.Hx.encode m ++ [32, 115, 116, 97, 116, 101, 61] ++ st.data.toList

theorem wpList_load_rowG {P : Program} {ops : Array Oper} {rest : List Oper} {o : Oper} {a : Act} {w : World} {Q : Exit → Act → World → Prop} (hw : Region.wanted o (yielded ops a.tmps) = true) (ty : TypeId) (x : Operand) (ho : o.op = .load ty x)
    (g : Nat) (hx : a.eval x = .pointer (some ⟨g, 0, none⟩)) (t : TypeId) (cs : Array Value) (fr : Nat × Nat) (d : TypeDesc) (hg : w.heap[g]? = some (.cells cs t fr))
    (hu : P.underlying ty = some d) (hd : (match d with | .struct _ | .array _ _ => true | _ => false) = true) (hi : (P.info? ty).map (·.size) = some cs.size)
    (h : wpList P ops Q rest (a.put o.dst (.agg cs)) w) : wpList P ops Q (o :: rest) a w :=
  wpList_step fun _ hK => by rw [if_pos hw]; exact wp_load_row ty x ho g hx t cs fr d hg hu hd hi (hK _ _ h)

theorem ret_bool {b : Bool} (h : b = true) : Ending.returned (.bool b) = .returned (.bool true) := by rw [h]
theorem tail_same (st tl : ByteArray) (h : tl = ⟨([32, 115, 116, 97, 116, 101, 61] ++ st.data.toList).toArray⟩) : (tl.toList == ((⟨#[32, 115, 116, 97, 116, 101, 61]⟩ : ByteArray) ++ st).toList) = true := by
  have e : tl = (⟨#[32, 115, 116, 97, 116, 101, 61]⟩ : ByteArray) ++ st := by
    rw [h]
    apply ByteArray.ext
    apply Array.ext'
    simp
  rw [e]
  simp

theorem s42_parts (E : List UInt8) (s : ByteArray) (hs : s = ⟨([48, 120] ++ E).toArray⟩) : s.extract 0 2 = ⟨#[48, 120]⟩ ∧ (s.extract 2 s.size).data.toList = E := by
  subst hs
  refine ⟨?_, ?_⟩
  · apply ByteArray.ext
    apply Array.ext'
    simp
  · simp [ByteArray.size]

theorem line0 (lb m : List UInt8) (st : ByteArray) : ((line lb m st).drop 0).take lb.length = lb := by
  unfold line
  simp only [List.drop_zero, List.append_assoc]
  exact List.take_left
theorem line1 (lb m : List UInt8) (st : ByteArray) : ((line lb m st).drop lb.length).take ([102, 111, 114, 101, 99, 97, 115, 116, 32] : List UInt8).length = [102, 111, 114, 101, 99, 97, 115, 116, 32] := by
  unfold line
  simp only [List.append_assoc]
  rw [List.drop_left]
  exact List.take_left
theorem line2 (lb m : List UInt8) (st : ByteArray) : ((line lb m st).drop (lb.length + 9)).take ([48, 120] ++ Lib.Hx.encode m).length = [48, 120] ++ Lib.Hx.encode m := by
  unfold line
  simp only [List.append_assoc]
  rw [← List.drop_drop, List.drop_left]
  show List.take _ (List.drop ([102, 111, 114, 101, 99, 97, 115, 116, 32] : List UInt8).length _) = _
  rw [List.drop_left, ← List.append_assoc [48, 120]]
  exact List.take_left
theorem line3 (lb m : List UInt8) (st : ByteArray) (hm : m.length = 20) : ((line lb m st).drop (lb.length + 9 + 42)).take ([32, 115, 116, 97, 116, 101, 61] ++ st.data.toList).length = [32, 115, 116, 97, 116, 101, 61] ++ st.data.toList := by
  unfold line
  simp only [List.append_assoc]
  have e : ([48, 120] ++ Lib.Hx.encode m).length = 42 := by rw [List.length_append, Lib.Hx.encode_length, hm]; rfl
  rw [← List.drop_drop, ← List.drop_drop, List.drop_left]
  show List.take _ (List.drop 42 (List.drop ([102, 111, 114, 101, 99, 97, 115, 116, 32] : List UInt8).length _)) = _
  rw [List.drop_left, ← List.append_assoc [48, 120], ← e, List.drop_left]
  exact List.take_of_length_le (Nat.le_refl _)

set_option maxHeartbeats 2000000 in
set_option maxRecDepth 100000 in
theorem law_some (ad : Addr) (cap : Nat) (lb m : List UInt8) (st : ByteArray) (w : World) (cc : Array Value) (T : TypeId) (x ev : Value) (hm : m.length = 20) (hlb : lb.length ≤ 1024) (hst : st.size ≤ 1024) (hcc : cc = (Lib.byteCells m).toArray)
    (hsrc : Src w (some ad) cap lb) (g2 : w.cell? ⟨2, 0, none⟩ = some (.iface T x)) (g3 : w.cell? ⟨3, 0, none⟩ = some ev) :
    Calls Ybaf.prog 3 #[.slice (some ad) lb.length cap, .agg cc, .string st] w fun e w' => e = .returned (.bool true) ∧ Below w.heap.size w w' := by
  have hsz : cc.size = 20 := by rw [hcc]; simp [byteCells_length, hm]
  have hi : (Ybaf.prog.info? 23).map (·.size) = some cc.size := by rw [hsz]; exact Ybaf.row23
  have hi25 : (Ybaf.prog.info? 25).map (·.size) = some cc.size := by rw [hsz]; exact Ybaf.row25
  have hnn := fun w => run_neq_slice_nil_any (P := Ybaf.prog) w 22 5 (some ad) lb.length cap 0 0 Ybaf.underlying22
  have hd0 : decide ((1024 : Int) < (lb.length : Int)) = false := decide_eq_false (by omega)
  have hd : decide ((1024 : Int) < (st.size : Int)) = false := decide_eq_false (by omega)
  have HC := Lib.hid hcc
  have HI := Lib.hid hi
  have HI25 := Lib.hid hi25
  have HB := Lib.hid (heap_alloc_new w (.cells cc 23))
  have bel0 : Below w.heap.size w (w.alloc (.cells cc 23)) := (Below.refl _ w).alloc (Nat.le_refl _) _
  have G2 := Lib.hid g2
  have G3 := Lib.hid g3
  clear hcc hi hi25 g2 g3
  have ob : Own ((w.alloc (.cells cc 23)).alloc (.cells #[] 5)) (w.heap.size + 1) (.slice (some ⟨w.heap.size + 1, 0, none⟩) 0 0) [] := by
    have := World.ownsRow_made (base := w.heap.size + 1) (e := 5) (size := 1) (w.alloc (.cells cc 23)) #[] 0 (by simp) (by unfold maxLen; omega) (by simp)
    simpa [Own, Lib.byteCells] using this
  have s1 : Src ((w.alloc (.cells cc 23)).alloc (.cells #[] 5)) (some ad) cap lb := hsrc.below (B := w.heap.size) (bel0.alloc (by simp) _) (Nat.le_refl _)
  go_enter Ybaf.func3, Ybaf.ntmps3
  go_wp2_with (at_builtin; refine wpList_app_src byt rfl _ _ rfl (w.heap.size + 1) _ _ rfl ob _ _ _ rfl s1 ?_ ?_ ?_)
  · simp; omega
  · simp
  intro v1 w1 o1 f1
  have g1 : Fr (w.heap.size + 1) (w.alloc (.cells cc 23)) w1 := ((Fr.refl _ _).alloc (by simp) _).trans f1
  have hb1 := Lib.hid (g1.box HB.out (by decide))
  have z1 : w.heap.size + 1 ≤ w1.heap.size := by have := g1.size; simpa using this
  clear f1 ob s1
  go_wp2_with (first
    | (refine wpList_load_row rfl 23 _ rfl w.heap.size rfl 23 cc (0, 0) _ hb1.out Ybaf.underlying23 rfl HI.out ?_)
    | (go_at_call 6; refine (start_any (w.heap.size + 1) _ lb m st w1 cc o1 z1 hm (by omega) HC.out).mono ?_; rintro e w2 ⟨v2, rfl, o2, f2⟩; refine Hid.out ?_))
  refine Lib.hid ?_
  have g2 := g1.trans f2
  have hb2 := Lib.hid (g2.box HB.out (by decide))
  have z2 : w.heap.size + 1 ≤ w2.heap.size := by have := g2.size; simpa using this
  have bel2 : Below w.heap.size w w2 := bel0.trans (g2.1.mono (by omega))
  have s2 : Src w2 (some ad) cap lb := hsrc.below (B := w.heap.size) bel2 (Nat.le_refl _)
  clear f2 o1 hb1
  obtain ⟨L, hL⟩ : ∃ L, L = line lb m st := ⟨_, rfl⟩
  have o2L : Own w2 (w.heap.size + 1) v2 L := by rw [hL]; exact o2
  have HL := Lib.hid hL
  have hlen : L.length = lb.length + 58 + st.size := by
    have e1 : st.data.toList.length = st.size := by rw [Array.length_toList]; rfl
    rw [hL]
    simp only [line, List.length_append, List.length_cons, List.length_nil, Lib.Hx.encode_length, hm, e1]
  rcases o2L.form with ⟨_, hnil⟩ | ⟨g, cap2, rfl, hc1, hc2, hc3, hc4, hcell⟩
  · exact absurd hlen (by rw [hnil, List.length_nil]; omega)
  rw [hlen] at hc1 ⊢
  unfold maxLen at hc2
  have HCELL := Lib.hid hcell
  have HLEN := Lib.hid hlen
  clear hcell hlen o2 o2L hL
  have cv0 := sub_convert byt HCELL.out 0 cap2 lb (by rw [HL.out]; exact line0 lb m st)
  have cvb := s2.convert byt
  have CV0 := Lib.hid cv0
  have CVB := Lib.hid cvb
  clear cv0 cvb
  go_wp2_with (go_at_call 7; refine (equal_conv _ _ _ w2 CV0.out CVB.out).mono ?_; rintro e w3 ⟨rfl, rfl⟩; refine Hid.out ?_)
  refine Lib.hid ?_
  have cv1 : ∀ c, (convert 22 9 (.slice (some ⟨g, lb.length, none⟩) 9 c)).run Ybaf.prog w3 = .ok (.string ⟨#[102, 111, 114, 101, 99, 97, 115, 116, 32]⟩) w3 := fun c => sub_convert byt HCELL.out lb.length c [102, 111, 114, 101, 99, 97, 115, 116, 32] (by rw [HL.out]; exact line1 lb m st)
  obtain ⟨s42, hs42⟩ : ∃ s : ByteArray, s = ⟨([48, 120] ++ Lib.Hx.encode m).toArray⟩ := ⟨_, rfl⟩
  have hl42 : ([48, 120] ++ Lib.Hx.encode m).length = 42 := by rw [List.length_append, Lib.Hx.encode_length, hm]; rfl
  have cv2 : ∀ c, (convert 22 9 (.slice (some ⟨g, lb.length + 9, none⟩) 42 c)).run Ybaf.prog w3 = .ok (.string s42) w3 := fun c => by
    have := sub_convert byt HCELL.out (lb.length + 9) c ([48, 120] ++ Lib.Hx.encode m) (by rw [HL.out]; exact line2 lb m st)
    rw [hl42] at this
    rw [hs42]
    exact this
  have h42 : s42.size = 42 := by rw [hs42]; exact List.size_toArray.trans hl42
  have HS42 := Lib.hid hs42
  have H42 := Lib.hid h42
  have HA := Lib.hid (arr_same m hm)
  clear hs42 hl42 h42
  have hpp := s42_parts _ s42 HS42.out
  have PP1 := Lib.hid hpp.1
  have PP2 := Lib.hid hpp.2
  have k2 : w3.cell? ⟨2, 0, none⟩ = some (.iface T x) := by rw [bel2.cell (World.block_lt_of_cell? w _ G2.out)]; exact G2.out
  have k3 : w3.cell? ⟨3, 0, none⟩ = some ev := by rw [bel2.cell (World.block_lt_of_cell? w _ G3.out)]; exact G3.out
  clear hpp
  go_wp2_with (go_at_call 8; refine (parseAddress_any m s42 _ w3 T x ev hm H42.out PP1.out rfl PP2.out k2 k3).mono ?_; rw [← HC.out]; rintro e w5 ⟨rfl, q5⟩; refine Hid.out ?_)
  refine Lib.hid ?_
  have bel5 : Below w.heap.size w w5 := bel2.trans (q5.mono (by omega))
  have hb5 : w5.heap[w.heap.size]? = some (.cells cc 23 (0, 0)) := by rw [q5.block _ (by omega)]; exact hb2.out
  clear k2 k3 cv1 cv2
  have hcs1 : cc.all (·.oneCell') = true := by
    rw [Array.all_eq_true_iff_forall_mem]
    intro u hu
    exact byteCells_oneCell m u (by rw [HC.out] at hu; simpa using hu)
  have HO := Lib.hid hcs1
  have HZ := Lib.hid (show Z.size = cc.size by rw [hsz]; rfl)
  have HN := Lib.hid (heap_alloc_new w5 (.cells Z 25))
  have HB5 := Lib.hid hb5
  clear hcs1 hb5
  have hf6 := setRow_heap (w5.alloc (.cells Z 25)) w5.heap.size Z cc 25 (0, 0) HN.out
  have h5lt : w.heap.size < w5.heap.size := (Array.getElem?_eq_some_iff.1 HB5.out).1
  have bel6 : Below w5.heap.size w5 ((w5.alloc (.cells Z 25)).setRow w5.heap.size cc) :=
    ((Below.refl _ w5).alloc (Nat.le_refl _) _).trans ⟨rfl, rfl, rfl, by simp, fun k hk => setRow_other _ w5.heap.size k cc (by omega)⟩
  go_wp2_with (refine wpList_store_row (w := w5.alloc (.cells Z 25)) rfl 25 _ _ rfl w5.heap.size cc rfl rfl 25 Z HN.out HI25.out HZ.out HO.out ?_; refine Hid.out ?_)
  refine Lib.hid ?_
  generalize hW6 : (w5.alloc (.cells Z 25)).setRow w5.heap.size cc = W6 at hf6 bel6 ⊢
  clear hW6
  have hb6 : W6.heap[w.heap.size]? = some (.cells cc 23 (0, 0)) := by rw [bel6.block _ h5lt]; exact HB5.out
  obtain ⟨tl, htl⟩ : ∃ s : ByteArray, s = ⟨([32, 115, 116, 97, 116, 101, 61] ++ st.data.toList).toArray⟩ := ⟨_, rfl⟩
  have hcv3 : ∀ c, (convert 22 9 (.slice (some ⟨g, lb.length + 9 + 42, none⟩) (lb.length + 58 + st.size - (lb.length + 9 + 42)) c)).run Ybaf.prog W6 = .ok (.string tl) W6 := fun c => by
    have b36 : Below w3.heap.size w3 W6 := q5.trans (bel6.mono q5.size)
    have hc6 : ∀ j (hj : j < L.length), W6.cell? ((⟨g, 0, none⟩ : Addr).add j) = some (.int .u8 (L[j].toNat : Int)) := fun j hj => by
      rw [b36.cell (by rw [add_block]; exact hc4)]
      exact HCELL.out j hj
    have h3 := sub_convert byt hc6 (lb.length + 9 + 42) c ([32, 115, 116, 97, 116, 101, 61] ++ st.data.toList) (by rw [HL.out]; exact line3 lb m st hm)
    have e : ([32, 115, 116, 97, 116, 101, 61] ++ st.data.toList).length = lb.length + 58 + st.size - (lb.length + 9 + 42) := by
      have e1 : st.data.toList.length = st.size := by rw [Array.length_toList]; rfl
      rw [List.length_append, e1]
      show 7 + st.size = _
      omega
    rw [e] at h3
    rw [htl]
    exact h3
  have HF6 := Lib.hid hf6
  have HB6 := Lib.hid hb6
  have HTL := Lib.hid htl
  have ha := fun wx => arr_same m hm wx
  rw [← HC.out] at ha
  have bel7 : Below w.heap.size w W6 := bel5.trans (bel6.mono (by omega))
  clear hf6 hb6 htl bel6
  go_wp2_with (first
    | (refine wpList_load_rowG rfl 25 _ rfl w5.heap.size rfl 25 cc (0, 0) _ HF6.out Ybaf.underlying25 rfl HI25.out ?_)
    | (refine wpList_load_rowG rfl 23 _ rfl w.heap.size rfl 23 cc (0, 0) _ HB6.out Ybaf.underlying23 rfl HI.out ?_))
  go_ret
  exact ⟨ret_bool (tail_same st tl HTL.out), bel7⟩
set_option maxHeartbeats 2000000 in
set_option maxRecDepth 100000 in
theorem law_nil (cap : Nat) (lb m : List UInt8) (st : ByteArray) (w : World) (cc : Array Value) (T : TypeId) (x ev : Value) (hm : m.length = 20) (hlb : lb.length ≤ 1024) (hst : st.size ≤ 1024) (hcc : cc = (Lib.byteCells m).toArray)
    (hlb0 : lb = []) (hcap0 : cap = 0) (g2 : w.cell? ⟨2, 0, none⟩ = some (.iface T x)) (g3 : w.cell? ⟨3, 0, none⟩ = some ev) :
    Calls Ybaf.prog 3 #[.slice none lb.length cap, .agg cc, .string st] w fun e w' => e = .returned (.bool true) ∧ Below w.heap.size w w' := by
  have hsz : cc.size = 20 := by rw [hcc]; simp [byteCells_length, hm]
  have hi : (Ybaf.prog.info? 23).map (·.size) = some cc.size := by rw [hsz]; exact Ybaf.row23
  have hi25 : (Ybaf.prog.info? 25).map (·.size) = some cc.size := by rw [hsz]; exact Ybaf.row25
  have hnn := fun w => run_neq_slice_nil_any (P := Ybaf.prog) w 22 5 none lb.length cap 0 0 Ybaf.underlying22
  have hd0 : decide ((1024 : Int) < (lb.length : Int)) = false := decide_eq_false (by omega)
  have hd : decide ((1024 : Int) < (st.size : Int)) = false := decide_eq_false (by omega)
  have HC := Lib.hid hcc
  have HI := Lib.hid hi
  have HI25 := Lib.hid hi25
  have HB := Lib.hid (heap_alloc_new w (.cells cc 23))
  have bel0 : Below w.heap.size w (w.alloc (.cells cc 23)) := (Below.refl _ w).alloc (Nat.le_refl _) _
  have G2 := Lib.hid g2
  have G3 := Lib.hid g3
  clear hcc hi hi25 g2 g3
  have hsrc : Src w none cap lb := .inl ⟨rfl, hcap0, hlb0⟩
  have o1 : Own (w.alloc (.cells cc 23)) (w.heap.size + 1) (.slice none 0 0) [] := Own.nil _ _
  have HLB0 := Lib.hid hlb0
  clear hlb0 hcap0
  go_enter Ybaf.func3, Ybaf.ntmps3
  go_wp2_with (first
    | (refine wpList_load_row rfl 23 _ rfl w.heap.size rfl 23 cc (0, 0) _ HB.out Ybaf.underlying23 rfl HI.out ?_)
    | (go_at_call 6; refine (start_any (w.heap.size + 1) _ [] m st (w.alloc (.cells cc 23)) cc o1 (by simp) hm (by simp; omega) HC.out).mono ?_; rintro e w2 ⟨v2, rfl, o2, f2⟩; refine Hid.out ?_))
  refine Lib.hid ?_
  have g2 := f2
  have hb2 := Lib.hid (g2.box HB.out (by decide))
  have z2 : w.heap.size + 1 ≤ w2.heap.size := by have := g2.size; simpa using this
  have bel2 : Below w.heap.size w w2 := bel0.trans (g2.1.mono (by omega))
  have s2 : Src w2 none cap lb := hsrc.below (B := w.heap.size) bel2 (Nat.le_refl _)
  clear o1
  obtain ⟨L, hL⟩ : ∃ L, L = line lb m st := ⟨_, rfl⟩
  have o2L : Own w2 (w.heap.size + 1) v2 L := by rw [hL, HLB0.out]; exact o2
  have HL := Lib.hid hL
  have hlen : L.length = lb.length + 58 + st.size := by
    have e1 : st.data.toList.length = st.size := by rw [Array.length_toList]; rfl
    rw [hL]
    simp only [line, List.length_append, List.length_cons, List.length_nil, Lib.Hx.encode_length, hm, e1]
  rcases o2L.form with ⟨_, hnil⟩ | ⟨g, cap2, rfl, hc1, hc2, hc3, hc4, hcell⟩
  · exact absurd hlen (by rw [hnil, List.length_nil]; omega)
  rw [hlen] at hc1 ⊢
  unfold maxLen at hc2
  have HCELL := Lib.hid hcell
  have HLEN := Lib.hid hlen
  clear hcell hlen o2 o2L hL
  have cv0 := sub_convert byt HCELL.out 0 cap2 lb (by rw [HL.out]; exact line0 lb m st)
  have cvb := s2.convert byt
  have CV0 := Lib.hid cv0
  have CVB := Lib.hid cvb
  clear cv0 cvb
  go_wp2_with (go_at_call 7; refine (equal_conv _ _ _ w2 CV0.out CVB.out).mono ?_; rintro e w3 ⟨rfl, rfl⟩; refine Hid.out ?_)
  refine Lib.hid ?_
  have cv1 : ∀ c, (convert 22 9 (.slice (some ⟨g, lb.length, none⟩) 9 c)).run Ybaf.prog w3 = .ok (.string ⟨#[102, 111, 114, 101, 99, 97, 115, 116, 32]⟩) w3 := fun c => sub_convert byt HCELL.out lb.length c [102, 111, 114, 101, 99, 97, 115, 116, 32] (by rw [HL.out]; exact line1 lb m st)
  obtain ⟨s42, hs42⟩ : ∃ s : ByteArray, s = ⟨([48, 120] ++ Lib.Hx.encode m).toArray⟩ := ⟨_, rfl⟩
  have hl42 : ([48, 120] ++ Lib.Hx.encode m).length = 42 := by rw [List.length_append, Lib.Hx.encode_length, hm]; rfl
  have cv2 : ∀ c, (convert 22 9 (.slice (some ⟨g, lb.length + 9, none⟩) 42 c)).run Ybaf.prog w3 = .ok (.string s42) w3 := fun c => by
    have := sub_convert byt HCELL.out (lb.length + 9) c ([48, 120] ++ Lib.Hx.encode m) (by rw [HL.out]; exact line2 lb m st)
    rw [hl42] at this
    rw [hs42]
    exact this
  have h42 : s42.size = 42 := by rw [hs42]; exact List.size_toArray.trans hl42
  have HS42 := Lib.hid hs42
  have H42 := Lib.hid h42
  have HA := Lib.hid (arr_same m hm)
  clear hs42 hl42 h42
  have hpp := s42_parts _ s42 HS42.out
  have PP1 := Lib.hid hpp.1
  have PP2 := Lib.hid hpp.2
  have k2 : w3.cell? ⟨2, 0, none⟩ = some (.iface T x) := by rw [bel2.cell (World.block_lt_of_cell? w _ G2.out)]; exact G2.out
  have k3 : w3.cell? ⟨3, 0, none⟩ = some ev := by rw [bel2.cell (World.block_lt_of_cell? w _ G3.out)]; exact G3.out
  clear hpp
  go_wp2_with (go_at_call 8; refine (parseAddress_any m s42 _ w3 T x ev hm H42.out PP1.out rfl PP2.out k2 k3).mono ?_; rw [← HC.out]; rintro e w5 ⟨rfl, q5⟩; refine Hid.out ?_)
  refine Lib.hid ?_
  have bel5 : Below w.heap.size w w5 := bel2.trans (q5.mono (by omega))
  have hb5 : w5.heap[w.heap.size]? = some (.cells cc 23 (0, 0)) := by rw [q5.block _ (by omega)]; exact hb2.out
  clear k2 k3 cv1 cv2
  have hcs1 : cc.all (·.oneCell') = true := by
    rw [Array.all_eq_true_iff_forall_mem]
    intro u hu
    exact byteCells_oneCell m u (by rw [HC.out] at hu; simpa using hu)
  have HO := Lib.hid hcs1
  have HZ := Lib.hid (show Z.size = cc.size by rw [hsz]; rfl)
  have HN := Lib.hid (heap_alloc_new w5 (.cells Z 25))
  have HB5 := Lib.hid hb5
  clear hcs1 hb5
  have hf6 := setRow_heap (w5.alloc (.cells Z 25)) w5.heap.size Z cc 25 (0, 0) HN.out
  have h5lt : w.heap.size < w5.heap.size := (Array.getElem?_eq_some_iff.1 HB5.out).1
  have bel6 : Below w5.heap.size w5 ((w5.alloc (.cells Z 25)).setRow w5.heap.size cc) :=
    ((Below.refl _ w5).alloc (Nat.le_refl _) _).trans ⟨rfl, rfl, rfl, by simp, fun k hk => setRow_other _ w5.heap.size k cc (by omega)⟩
  go_wp2_with (refine wpList_store_row (w := w5.alloc (.cells Z 25)) rfl 25 _ _ rfl w5.heap.size cc rfl rfl 25 Z HN.out HI25.out HZ.out HO.out ?_; refine Hid.out ?_)
  refine Lib.hid ?_
  generalize hW6 : (w5.alloc (.cells Z 25)).setRow w5.heap.size cc = W6 at hf6 bel6 ⊢
  clear hW6
  have hb6 : W6.heap[w.heap.size]? = some (.cells cc 23 (0, 0)) := by rw [bel6.block _ h5lt]; exact HB5.out
  obtain ⟨tl, htl⟩ : ∃ s : ByteArray, s = ⟨([32, 115, 116, 97, 116, 101, 61] ++ st.data.toList).toArray⟩ := ⟨_, rfl⟩
  have hcv3 : ∀ c, (convert 22 9 (.slice (some ⟨g, lb.length + 9 + 42, none⟩) (lb.length + 58 + st.size - (lb.length + 9 + 42)) c)).run Ybaf.prog W6 = .ok (.string tl) W6 := fun c => by
    have b36 : Below w3.heap.size w3 W6 := q5.trans (bel6.mono q5.size)
    have hc6 : ∀ j (hj : j < L.length), W6.cell? ((⟨g, 0, none⟩ : Addr).add j) = some (.int .u8 (L[j].toNat : Int)) := fun j hj => by
      rw [b36.cell (by rw [add_block]; exact hc4)]
      exact HCELL.out j hj
    have h3 := sub_convert byt hc6 (lb.length + 9 + 42) c ([32, 115, 116, 97, 116, 101, 61] ++ st.data.toList) (by rw [HL.out]; exact line3 lb m st hm)
    have e : ([32, 115, 116, 97, 116, 101, 61] ++ st.data.toList).length = lb.length + 58 + st.size - (lb.length + 9 + 42) := by
      have e1 : st.data.toList.length = st.size := by rw [Array.length_toList]; rfl
      rw [List.length_append, e1]
      show 7 + st.size = _
      omega
    rw [e] at h3
    rw [htl]
    exact h3
  have HF6 := Lib.hid hf6
  have HB6 := Lib.hid hb6
  have HTL := Lib.hid htl
  have ha := fun wx => arr_same m hm wx
  rw [← HC.out] at ha
  have bel7 : Below w.heap.size w W6 := bel5.trans (bel6.mono (by omega))
  clear hf6 hb6 htl bel6
  go_wp2_with (first
    | (refine wpList_load_rowG rfl 25 _ rfl w5.heap.size rfl 25 cc (0, 0) _ HF6.out Ybaf.underlying25 rfl HI25.out ?_)
    | (refine wpList_load_rowG rfl 23 _ rfl w.heap.size rfl 23 cc (0, 0) _ HB6.out Ybaf.underlying23 rfl HI.out ?_))
  go_ret
  exact ⟨ret_bool (tail_same st tl HTL.out), bel7⟩

theorem law_any (ao : Option Addr) (cap : Nat) (lb m : List UInt8) (st : ByteArray) (w : World) (cc : Array Value) (T : TypeId) (x ev : Value) (hm : m.length = 20) (hcc : cc = (Lib.byteCells m).toArray) (hsrc : Src w ao cap lb)
    (g2 : w.cell? ⟨2, 0, none⟩ = some (.iface T x)) (g3 : w.cell? ⟨3, 0, none⟩ = some ev) :
    Calls Ybaf.prog 3 #[.slice ao lb.length cap, .agg cc, .string st] w fun e w' => e = .returned (.bool true) ∧ Below w.heap.size w w' := by
  have hsz : cc.size = 20 := by rw [hcc]; simp [byteCells_length, hm]
  by_cases h1 : 1024 < lb.length
  · exact law_long ao cap lb st w cc hsz (by omega)
  by_cases h2 : 1024 < st.size
  · exact law_long2 ao cap lb st w cc hsz (by omega) (by omega)
  rcases hsrc with ⟨rfl, h3, h4⟩ | ⟨ad, rfl, hr⟩
  · exact law_nil cap lb m st w cc T x ev hm (by omega) (by omega) hcc h4 h3 g2 g3
  · exact law_some ad cap lb m st w cc T x ev hm (by omega) (by omega) hcc (.inr ⟨ad, rfl, hr⟩) g2 g3
end Go.Proofs.YbulkaqwaFmt
