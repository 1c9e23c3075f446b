/-
  THE WALKS OF THE APPENDERS: appendField, slices.Grow and hex.AppendEncode (over the shelf's contracts), Address.appendText.
-/
import Derived.Test.YbulkaqwaDoorBase
import Derived.Test.YbulkaqwaDoorShelf
import Derived.Lib.Hide
namespace Go.Proofs.YbulkaqwaDoor
open Go Go.RowKit
theorem byt : Byt Ybad.prog := ⟨Ybad.underlying22, Ybad.underlying5, Ybad.underlying9, by kernel_rfl⟩

set_option maxHeartbeats 1000000 in
theorem appendField_any (B : Nat) (v : Value) (l : List UInt8) (key val : ByteArray) (w : World) (hown : Own w B v l) (hB : B ≤ w.heap.size) (hlim : l.length + key.size + val.size + 2 ≤ 140737488355328) :
    Calls Ybad.prog 16 #[v, .string key, .string val] w fun e w' => ∃ v', e = .returned v' ∧ Own w' B v' (l ++ [32] ++ key.data.toList ++ [61] ++ val.data.toList) ∧ Fr B w w' := by
  have hk : key.data.toList.length = key.size := by rw [Array.length_toList]; rfl
  go_enter Ybad.func16, Ybad.ntmps16
  go_wp2_with (at_builtin; refine wpList_app_byte byt rfl _ _ rfl B _ _ rfl (hown.alloc _) w.heap.size 1 32 rfl ?_ ?_ ?_ ?_)
  · simp
  · omega
  · simp; omega
  intro v1 w1 o1 f1
  have g1 : Fr B w w1 := ((Fr.refl B w).alloc hB _).trans f1
  have z1 := g1.size
  clear f1
  go_wp2_with (at_builtin; refine wpList_app_str byt rfl _ _ rfl B _ _ rfl o1 key rfl ?_ ?_ ?_)
  · simp; omega
  · omega
  intro v2 w2 o2 f2
  have g2 : Fr B w w2 := g1.trans f2
  have z2 := g2.size
  clear f2 o1
  go_wp2_with (at_builtin; refine wpList_app_byte byt rfl _ _ rfl B _ _ rfl (o2.alloc _) w2.heap.size 1 61 rfl ?_ ?_ ?_ ?_)
  · simp
  · simp; omega
  · simp; omega
  intro v3 w3 o3 f3
  have g3 : Fr B w w3 := (g2.alloc (by omega) _).trans f3
  have z3 := g3.size
  clear f3 o2
  go_wp2_with (at_builtin; refine wpList_app_str byt rfl _ _ rfl B _ _ rfl o3 val rfl ?_ ?_ ?_)
  · simp; omega
  · omega
  intro v4 w4 o4 f4
  have g4 : Fr B w w4 := g3.trans f4
  clear f4 o3
  go_wp2
  go_ret
  exact ⟨v4, rfl, by simpa using o4, g4⟩

/-- What slices.Grow hands back: a row with room for n more behind the bytes l. -/
def Room (w : World) (B : Nat) (l : List UInt8) (n g cap : Nat) (f : Nat → Value) : Prop :=
  l.length + n ≤ cap ∧ cap ≤ maxLen ∧ B ≤ g ∧ w.rowIs g 5 cap f ∧ ∀ j (hj : j < l.length), f j = .int .u8 (l[j].toNat : Int)

theorem room_of_cells {w : World} {B : Nat} {l : List UInt8} {n g : Nat} (cur : Array Value) (hg : w.heap[g]? = some (.cells cur 5 (0, 0))) (h1 : l.length + n ≤ cur.size) (h2 : cur.size ≤ maxLen) (h3 : B ≤ g)
    (ht : cur.toList.take l.length = Lib.byteCells l) : Room w B l n g cur.size (fun j => cur.toList[j]?.getD undef) := by
  refine ⟨h1, h2, h3, ⟨cur, hg, rfl, fun i hi => ?_⟩, fun j hj => ?_⟩
  · show cur[i]? = some (cur.toList[i]?.getD undef)
    rw [Array.getElem?_toList, Array.getElem?_eq_getElem hi]; rfl
  · have e : (Lib.byteCells l)[j]? = cur.toList[j]? := by rw [← ht, List.getElem?_take, if_pos hj]
    show cur.toList[j]?.getD undef = _
    rw [← e]
    simp [Lib.byteCells, hj]

set_option maxHeartbeats 1000000 in
theorem grow_any (B : Nat) (v : Value) (l : List UInt8) (n : Nat) (w : World) (hown : Own w B v l) (hB : B ≤ w.heap.size) (hn : 0 < n) (hlim : l.length + n ≤ 140737488355328) :
    Calls Ybad.prog 27 #[v, .int .i64 n] w fun e w' => ∃ g cap f, e = .returned (.slice (some ⟨g, 0, none⟩) l.length cap) ∧ Room w' B l n g cap f ∧ Fr B w w' := by
  obtain ⟨i0, hi, hz0, hz1, hz2⟩ := info_parts byt.i5
  have hlc : (Lib.byteCells l).length = l.length := byteCells_length l
  rcases hown.2 with ⟨rfl, h0⟩ | ⟨g, cap, cur, rfl, hbg, hg, hnc, hcm, hcs, htake⟩
  · have hl : l = [] := List.eq_nil_of_length_eq_zero h0
    subst hl
    refine (Any8.slices_Grow_grow Ybad.growB i0 (.int .u8 0) hi hz0 (by omega) none 0 0 n [] w (Nat.le_refl _) (by omega) (by rw [hz2]; omega) (by simp at hlim; omega) (by simp) (fun _ => rfl) (fun a ha => by cases ha)).mono ?_
    rintro e w' ⟨rfl, rfl⟩
    have hge := grownCap_ge w (0 + n) 0 5
    have hle := grownCap_le_maxLen w (0 + n) 0 5 (by unfold maxLen; simp at hlim; omega)
    have hsz : (([] : List Value).toArray ++ Builtin.zeroCells (Value.int .u8 0).cells (0 + n - 0) ++ Builtin.zeroCells (Value.int .u8 0).cells (grownCap w (0 + n) 0 5 - (0 + n))).size = grownCap w (0 + n) 0 5 := by
      have hz1 : (Value.int IntKind.u8 0).cells.size = 1 := rfl
      simp only [Array.size_append, List.size_toArray, size_zeroCells, hz1, List.length_nil]
      omega
    have hr := room_of_cells (w := w.drew.alloc (.cells (([] : List Value).toArray ++ Builtin.zeroCells (Value.int .u8 0).cells (0 + n - 0) ++ Builtin.zeroCells (Value.int .u8 0).cells (grownCap w (0 + n) 0 5 - (0 + n))) 5)) (B := B) (l := []) (n := n) (g := w.heap.size) _ (heap_alloc_new w.drew _) (by rw [hsz]; simpa using hge) (by rw [hsz]; exact hle) hB (by simp [Lib.byteCells])
    rw [hsz] at hr
    exact ⟨w.heap.size, _, _, rfl, hr, (Fr.refl B w).drew.alloc hB _⟩
  · have hcs' : cur.size = cap := by simpa using hcs
    have ht : cur.toList.take l.length = Lib.byteCells l := by simpa using htake
    by_cases hroom : l.length + n ≤ cap
    · refine (Any8.slices_Grow_room Ybad.growB (some ⟨g, 0, none⟩) l.length cap n w hnc (by unfold maxLen at hcm; omega) (by omega) hroom).mono ?_
      rintro e w' ⟨rfl, rfl⟩
      have hr := room_of_cells (B := B) (l := l) (n := n) cur hg (by omega) (by omega) hbg ht
      rw [hcs'] at hr
      exact ⟨g, cap, _, rfl, hr, Fr.refl _ _⟩
    · refine (Any8.slices_Grow_grow Ybad.growB i0 (.int .u8 0) hi hz0 (by omega) (some ⟨g, 0, none⟩) l.length cap n cur.toList w hnc (by omega) (by rw [hz2]; omega) (by omega) (by rw [hz1, Array.length_toList]; omega) (fun h => by cases h) (fun a ha j u hu => by
        cases ha
        rw [show (⟨g, 0, none⟩ : Addr).add j = ⟨g, j, none⟩ from by unfold Addr.add; split <;> simp_all, cell_of_row w g j cur 5 (0, 0) hg]
        simpa using hu)).mono ?_
      rintro e w' ⟨rfl, rfl⟩
      have hge := grownCap_ge w (l.length + n) cap 5
      have hle := grownCap_le_maxLen w (l.length + n) cap 5 (by unfold maxLen; omega)
      have hsz : (cur.toList.toArray ++ Builtin.zeroCells (Value.int .u8 0).cells (l.length + n - cap) ++ Builtin.zeroCells (Value.int .u8 0).cells (grownCap w (l.length + n) cap 5 - (l.length + n))).size = grownCap w (l.length + n) cap 5 := by
        have hz1 : (Value.int IntKind.u8 0).cells.size = 1 := rfl
        simp only [Array.size_append, List.size_toArray, size_zeroCells, hz1, Array.length_toList]
        omega
      have hr := room_of_cells (w := w.drew.alloc (.cells (cur.toList.toArray ++ Builtin.zeroCells (Value.int .u8 0).cells (l.length + n - cap) ++ Builtin.zeroCells (Value.int .u8 0).cells (grownCap w (l.length + n) cap 5 - (l.length + n))) 5)) (B := B) (l := l) (n := n) (g := w.heap.size) _ (heap_alloc_new w.drew _) (by rw [hsz]; exact hge) (by rw [hsz]; exact hle) hB (by
        rw [← ht]
        simp only [Array.toList_append, List.append_assoc]
        rw [List.take_append_of_le_length (by simp; omega)])
      rw [hsz] at hr
      exact ⟨w.heap.size, _, _, rfl, hr, (Fr.refl B w).drew.alloc hB _⟩

theorem Fr.grownRow {B : Nat} {a w w' : World} {g cap : Nat} {f : Nat → Value} (h : Fr B a w) (hg : w.grownBy w' (some g)) (hb : B ≤ g) (hr : w.rowIs g 5 cap f) (hB : B ≤ w.heap.size) : Fr B a w' :=
  ⟨h.1.grown hg hB (fun k hk => by cases hk; exact hb), h.2.grown hg (fun k hk => by cases hk; obtain ⟨c, hc, _⟩ := hr; exact ⟨c, _, hc⟩)⟩
theorem own_of_row {w : World} {B g cap : Nat} {f : Nat → Value} {k : List UInt8} (hr : w.rowIs g 5 cap f) (hb : B ≤ g) (h1 : k.length ≤ cap) (h2 : cap ≤ maxLen) (hf : ∀ j (hj : j < k.length), f j = .int .u8 (k[j].toNat : Int)) :
    Own w B (.slice (some ⟨g, 0, none⟩) k.length cap) k := by
  obtain ⟨c, hc, hs, hv⟩ := hr
  refine ⟨by simp [byteCells_length], .inr ⟨g, cap, c, rfl, hb, hc, h1, h2, by simpa using hs, ?_⟩⟩
  apply List.ext_getElem?
  intro j
  by_cases hj : j < k.length
  · rw [List.getElem?_take, if_pos (by omega), Array.getElem?_toList, hv j (by omega), hf j hj]
    simp [Lib.byteCells, hj]
  · rw [List.getElem?_take, if_neg (by omega)]
    exact (List.getElem?_eq_none (by rw [byteCells_length]; omega)).symm

def nums (m : List UInt8) : List Int := m.map fun b => (b.toNat : Int)
theorem bytesOf_nums (m : List UInt8) : Lib.bytesOf (nums m) = m := by
  unfold Lib.bytesOf nums
  rw [List.map_map]
  conv => rhs; rw [← List.map_id m]
  apply List.map_congr_left
  intro b _
  simp
theorem nums_getD (m : List UInt8) (i : Nat) (h : i < m.length) : (nums m).getD i 0 = (m[i].toNat : Int) := by
  simp [nums, List.getD_eq_getElem?_getD, h]

set_option maxHeartbeats 1000000 in
/-- encoding/hex.AppendEncode onto an own row, the source in a block that is no row of bytes. -/
theorem appendEncode_any (B : Nat) (v : Value) (l m : List UInt8) (bs cs : Nat) (w : World) (hown : Own w B v l) (hB : B ≤ w.heap.size) (hm : 0 < m.length) (hlim : l.length + 2 * m.length ≤ 140737488355328)
    (cc : Array Value) (t : TypeId) (fz : Nat × Nat) (hbs : w.heap[bs]? = some (.cells cc t fz)) (ht : t ≠ 5) (hsrc : ∀ j (hj : j < m.length), cc[j]? = some (.int .u8 (m[j].toNat : Int))) :
    Calls Ybad.prog 20 #[v, .slice (some ⟨bs, 0, none⟩) m.length cs] w fun e w' => ∃ v', e = .returned v' ∧ Own w' B v' (l ++ Lib.Hx.encode m) ∧ Fr B w w' := by
  go_enter Ybad.func20, Ybad.ntmps20
  go_wp2_with (go_at_call 26; refine (Ybad.hex_EncodedLen _ (by omega) (by omega) _).mono ?_; rintro e w' ⟨rfl, rfl⟩; refine Hid.out ?_)
  refine Lib.hid ?_
  rw [show ((m.length : Int) * 2) = ((2 * m.length : Nat) : Int) from by omega]
  go_wp2_with (go_at_call 27; refine (grow_any B v l (2 * m.length) _ hown hB (by omega) hlim).mono ?_)
  rintro e w1 ⟨g, cap, f, rfl, hroom, f1⟩
  obtain ⟨r1, r2, r3, r4, r5⟩ := hroom
  unfold maxLen at r2
  have hb1 := f1.box hbs ht
  have hne : g ≠ bs := by
    rintro rfl
    obtain ⟨c0, hc0, _⟩ := r4
    rw [hc0] at hb1
    cases hb1
    exact ht rfl
  have R4 := Lib.hid r4
  have R5 := Lib.hid r5
  have HB1 := Lib.hid hb1
  have HS := Lib.hid hsrc
  clear r4 r5 hb1 hsrc hbs hown
  go_wp2_with (go_at_call 28; refine (Ybad.hex_Encode_tag 5 g l.length (2 * m.length) (cap - l.length) cap f bs 0 m.length cs (nums m) w1 (by simp [nums]) ?_ ?_ R4.out ?_ ?_ hne ?_).mono ?_)
  · intro i hi
    rw [nums_getD m i hi]
    have := m[i].toNat_lt
    omega
  · intro i hi
    rw [Nat.zero_add, cell_of_row w1 bs i cc t fz HB1.out, nums_getD m i hi]
    exact HS.out i hi
  · omega
  · omega
  · omega
  rintro e w2 ⟨rfl, q1, q2⟩
  rw [bytesOf_nums] at q1
  have Q1 := Lib.hid q1
  have f2 : Fr B w' w2 := f1.trans ((Fr.refl B w1).grownRow q2 r3 R4.out (by have := f1.size; omega))
  clear q1 q2 f1
  go_wp2
  go_ret
  refine ⟨_, rfl, ?_, f2⟩
  have hl : (l ++ Lib.Hx.encode m).length = l.length + 2 * m.length := by rw [List.length_append, Lib.Hx.encode_length]
  have ho := own_of_row (B := B) (k := l ++ Lib.Hx.encode m) Q1.out r3 (by rw [hl]; exact r1) r2 ?_
  · rw [hl] at ho
    exact ho
  · intro j hj
    rw [hl] at hj
    unfold Lib.Hx.row
    by_cases h : j < l.length
    · rw [if_neg (by omega), R5.out j h, List.getElem_append_left h]
    · have hje : j - l.length < (Lib.Hx.encode m).length := by rw [Lib.Hx.encode_length]; omega
      rw [if_pos (by omega), List.getElem_append_right (by omega), List.getElem?_eq_getElem hje]
      rfl

theorem appendEncode_20 (B : Nat) (v : Value) (l m : List UInt8) (bs cs : Nat) (w : World) (hown : Own w B v l) (hB : B ≤ w.heap.size) (hm : m.length = 20) (hlim : l.length + 40 ≤ 140737488355328)
    (cc : Array Value) (t : TypeId) (fz : Nat × Nat) (hbs : w.heap[bs]? = some (.cells cc t fz)) (ht : t ≠ 5) (hsrc : ∀ j (hj : j < m.length), cc[j]? = some (.int .u8 (m[j].toNat : Int))) :
    Calls Ybad.prog 20 #[v, .slice (some ⟨bs, 0, none⟩) 20 cs] w fun e w' => ∃ v', e = .returned v' ∧ Own w' B v' (l ++ Lib.Hx.encode m) ∧ Fr B w w' := by
  have h := appendEncode_any B v l m bs cs w hown hB (by omega) (by omega) cc t fz hbs ht hsrc
  rw [hm] at h
  exact h

theorem Ybad.info25 : (Ybad.prog.info? 25).map (·.size) = some 20 := by kernel_rfl

set_option maxHeartbeats 1000000 in
/-- (Address).appendText -/
theorem appendText_any (B : Nat) (v : Value) (l m : List UInt8) (w : World) (cc : Array Value) (hown : Own w B v l) (hB : B ≤ w.heap.size) (hm : m.length = 20) (hlim : l.length + 42 ≤ 140737488355328)
    (hcc : cc = (Lib.byteCells m).toArray) :
    Calls Ybad.prog 17 #[.agg cc, v] w fun e w' => ∃ v', e = .returned v' ∧ Own w' B v' (l ++ [48, 120] ++ Lib.Hx.encode m) ∧ Fr B w w' := by
  have hsz : cc.size = 20 := by rw [hcc]; simp [byteCells_length, hm]
  have HC := Lib.hid hcc
  clear hcc
  go_enter Ybad.func17, Ybad.ntmps17
  go_wp2_with (at_builtin; refine wpList_app_str byt rfl _ _ rfl B _ _ rfl (hown.alloc _) ⟨#[48, 120]⟩ rfl ?_ ?_ ?_)
  · show l.length + 2 ≤ 140737488355328
    omega
  · simp; omega
  intro v1 w1 o1 f1
  have hb1 := f1.box (heap_alloc_new w (.cells cc 25)) (by decide)
  have g1 : Fr B w w1 := ((Fr.refl B w).alloc hB _).trans f1
  have z1 := g1.size
  clear f1 hown
  have HB := Lib.hid hb1
  clear hb1
  go_wp2_with (go_at_call 20; refine (appendEncode_20 B v1 _ m w.heap.size 20 w1 o1 ?_ hm ?_ cc 25 (0, 0) HB.out ?_ ?_).mono ?_)
  · omega
  · simp; omega
  · decide
  · intro j hj
    rw [HC.out]
    simp [Lib.byteCells, hj]
  rintro e w2 ⟨v2, rfl, o2, f2⟩
  have g2 := g1.trans f2
  clear f2 o1 g1
  go_wp2
  go_ret
  exact ⟨v2, rfl, by simpa using o2, g2⟩

end Go.Proofs.YbulkaqwaDoor
