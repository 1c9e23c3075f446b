/-
  THE WALKS OF cutHexPrefix, parseAddress AND ParseAddress at the text of an address; hex.Decode undoes hex.Encode.
-/
import Derived.Test.YbulkaqwaFmtParts
import Derived.Lib.HexFns2
import Derived.Lib.ConvBytes
import Derived.WalkSpells
import Derived.Laws.Tables
namespace Go.Proofs.YbulkaqwaFmt
open Go Go.RowKit

theorem v_digit : ∀ d, d < 16 → Lib.Hx.v (Lib.Hx.digit d) = d := by decide
theorem decode_encode (m : List UInt8) : Lib.Hx.decode (Lib.Hx.encode m) = (m, .ok) := by
  induction m with
  | nil => exact Lib.Hx.decode_nil
  | cons b t ih =>
    have hb := b.toNat_lt
    have h1 := v_digit (b.toNat / 16) (by omega)
    have h2 := v_digit (b.toNat % 16) (by omega)
    rw [Lib.Hx.encode_cons, Lib.Hx.decode_two, h1, h2, if_neg (by omega), if_neg (by omega), ih]
    have e : b.toNat / 16 * 16 + b.toNat % 16 = b.toNat := by omega
    rw [e]
    simp

set_option maxHeartbeats 1000000 in
/-- cutHexPrefix at a string that begins with 0x. -/
theorem cut_any (s : ByteArray) (kv : Value) (w : World) (h2 : 2 ≤ s.size) (hmax : s.size ≤ 1000) (hp : s.extract 0 2 = ⟨#[48, 120]⟩) :
    Calls Ybaf.prog 31 #[.string s, kv] w fun e w' => e = .returned (.tuple #[.string (s.extract 2 s.size), .nilIface]) ∧ w' = w := by
  have hd : decide ((s.size : Int) < 2) = false := decide_eq_false (by omega)
  go_enter Ybaf.func31, Ybaf.ntmps31
  go_wp2
  go_ret2
  exact ⟨rfl, rfl⟩

def Z : Array Value := #[Value.int IntKind.u8 0, Value.int IntKind.u8 0, Value.int IntKind.u8 0, Value.int IntKind.u8 0, Value.int IntKind.u8 0, Value.int IntKind.u8 0, Value.int IntKind.u8 0, Value.int IntKind.u8 0, Value.int IntKind.u8 0, Value.int IntKind.u8 0, Value.int IntKind.u8 0, Value.int IntKind.u8 0, Value.int IntKind.u8 0, Value.int IntKind.u8 0, Value.int IntKind.u8 0, Value.int IntKind.u8 0, Value.int IntKind.u8 0, Value.int IntKind.u8 0, Value.int IntKind.u8 0, Value.int IntKind.u8 0]

/-- Two arrays of the call's own and the bytes of a string behind them. -/
def W3 (w : World) (d : ByteArray) : World := Lib.bytesWorld ((w.alloc (.cells Z 25)).alloc (.cells Z 25)) 5 d

theorem W3_box1 (w : World) (d : ByteArray) : (W3 w d).heap[w.heap.size]? = some (.cells Z 25 (0, 0)) := by
  unfold W3
  rw [Lib.bytesWorld_at_old _ _ _ _ (by simp; omega)]
  exact heap_alloc2_old w _ _
theorem W3_box2 (w : World) (d : ByteArray) : (W3 w d).heap[w.heap.size + 1]? = some (.cells Z 25 (0, 0)) := by
  unfold W3
  rw [Lib.bytesWorld_at_old _ _ _ _ (by simp)]
  exact heap_alloc2_new w _ _
theorem W3_cell (w : World) (d : ByteArray) (j : Nat) (hj : j < d.size) : (W3 w d).cell? ⟨w.heap.size + 1 + 1, j, none⟩ = some (.int .u8 (d.data.toList.getD j 0).toNat) := by
  have h := Lib.bytesWorld_cell ((w.alloc (.cells Z 25)).alloc (.cells Z 25)) 5 d j hj
  have e : ((w.alloc (.cells Z 25)).alloc (.cells Z 25)).heap.size = w.heap.size + 1 + 1 := by simp
  rw [e] at h
  exact h
theorem W3_size (w : World) (d : ByteArray) : (W3 w d).heap.size = w.heap.size + 3 := by
  unfold W3
  rw [Lib.bytesWorld_size]
  simp
theorem W3_below (w : World) (d : ByteArray) : Below w.heap.size w (W3 w d) := by
  have h1 : Below w.heap.size w ((w.alloc (.cells Z 25)).alloc (.cells Z 25)) := ((Below.refl _ w).alloc (Nat.le_refl _) _).alloc (by simp) _
  refine h1.trans ⟨?_, ?_, ?_, ?_, fun k hk => Lib.bytesWorld_at_old _ _ _ _ (by simp; omega)⟩
  · unfold W3 Lib.bytesWorld World.freeze; split <;> rfl
  · unfold W3 Lib.bytesWorld World.freeze; split <;> rfl
  · unfold W3 Lib.bytesWorld World.freeze; split <;> rfl
  · rw [W3_size]; simp

/-- A row that holds a list of bytes, cell by cell. -/
theorem row_bytes {w : World} {g t : Nat} {f : Nat → Value} {m : List UInt8} (h : w.rowIs g t m.length f) (hf : ∀ j (hj : j < m.length), f j = .int .u8 (m[j].toNat : Int)) : w.heap[g]? = some (.cells (Lib.byteCells m).toArray t (0, 0)) := by
  obtain ⟨c, hc, hs, hv⟩ := h
  rw [hc]
  congr 2
  apply Array.ext'
  apply List.ext_getElem?
  intro j
  by_cases hj : j < m.length
  · rw [Array.getElem?_toList, hv j hj, hf j hj]
    simp [Lib.byteCells, hj]
  · rw [List.getElem?_eq_none (by simp; omega), List.getElem?_eq_none (by simp [byteCells_length]; omega)]

theorem Ybaf.row25 : (Ybaf.prog.info? 25).map (·.size) = some 20 := by kernel_rfl

set_option maxHeartbeats 1000000 in
theorem parse_any (m : List UInt8) (s d : ByteArray) (w : World) (T : TypeId) (x ev : Value) (hm : m.length = 20) (hs : s.size = 42) (hp : s.extract 0 2 = ⟨#[48, 120]⟩) (hd : s.extract 2 s.size = d) (hdl : d.data.toList = Lib.Hx.encode m)
    (h2 : w.cell? ⟨2, 0, none⟩ = some (.iface T x)) (h3 : w.cell? ⟨3, 0, none⟩ = some ev) :
    Calls Ybaf.prog 20 #[.string s] w fun e w' => e = .returned (.tuple #[.agg (Lib.byteCells m).toArray, .nilIface]) ∧ Below w.heap.size w w' := by
  have hds : d.size = 40 := by
    have h : d.data.toList.length = 40 := by rw [hdl, Lib.Hx.encode_length, hm]
    rw [Array.length_toList] at h
    exact h
  have hb2 := World.block_lt_of_cell? w _ h2
  have hb3 := World.block_lt_of_cell? w _ h3
  simp only at hb2 hb3
  have hne40 : ((d.size : Int) != 40) = false := by rw [hds]; rfl
  have HD := Lib.hid hdl
  have HDS := Lib.hid hds
  have HP := Lib.hid hp
  have HSD := Lib.hid hd
  have hcs := fun wx : World => Lib.run_convert_string_bytes (P := Ybaf.prog) wx 9 22 5 d Ybaf.underlying9 Ybaf.underlying22 Ybaf.underlying5
  clear hdl hds hp hd
  go_enter Ybaf.func20, Ybaf.ntmps20
  go_wp2_with (go_at_call 31; refine (cut_any s _ _ (by omega) (by omega) HP.out).mono ?_; rintro e w' ⟨rfl, rfl⟩; rw [HSD.out]; refine Hid.out ?_)
  refine Lib.hid ?_
  go_wp2_with (go_at_call 32; refine (Ybaf.hex_EncodedLen 20 (by omega) (by omega) _).mono ?_; rintro e w' ⟨rfl, rfl⟩; refine Hid.out ?_)
  refine Lib.hid ?_
  go_wp2_with (go_at_call 34; refine (Ybaf.hex_Decode_tag 25 (w.heap.size + 1) 0 20 20 20 (fun _ => .int .u8 0) (w.heap.size + 1 + 1) 0 d.size _ (nums (Lib.Hx.encode m)) (W3 w d) ev ?_ ?_ ?_ ?_ ?_ ?_ ?_ ?_ ?_ ?_).mono ?_)
  · simp [nums, Lib.Hx.encode_length, hm, HDS.out]
  · intro i hi
    have hi' : i < (Lib.Hx.encode m).length := by rw [Lib.Hx.encode_length, hm]; rw [HDS.out] at hi; exact hi
    rw [nums_getD _ i hi']
    have := (Lib.Hx.encode m)[i].toNat_lt
    omega
  · intro i hi
    have hi' : i < (Lib.Hx.encode m).length := by rw [Lib.Hx.encode_length, hm]; rw [HDS.out] at hi; exact hi
    rw [Nat.zero_add, W3_cell w d i hi, HD.out, nums_getD _ i hi']
    simp [hi']
  · refine ⟨Z, W3_box2 w d, rfl, fun i hi => ?_⟩
    have e : Z = Array.replicate 20 (.int .u8 0) := rfl
    rw [e]
    simp [hi]
  · omega
  · rw [HDS.out]; omega
  · omega
  · rw [HDS.out]; omega
  · rw [(W3_below w d).cell (by exact hb3)]; exact h3
  · omega
  rw [bytesOf_nums, decode_encode]
  rintro e w4 ⟨rfl, q1, q2⟩
  rw [show Lib.Hx.errVal 133 ev (m, Lib.Hx.Out.ok).snd = .nilIface from rfl]
  replace q1 : w4.rowIs (w.heap.size + 1) 25 20 (Lib.Hx.rowP (fun _ => .int .u8 0) 0 m) := q1
  have hc2 : w4.heap[w.heap.size + 1]? = some (.cells (Lib.byteCells m).toArray 25 (0, 0)) := by
    refine row_bytes (by rw [hm]; exact q1) fun j hj => ?_
    unfold Lib.Hx.rowP
    rw [if_pos (by omega), Nat.sub_zero, List.getElem?_eq_getElem hj]
    rfl
  have hc1 : w4.heap[w.heap.size]? = some (.cells Z 25 (0, 0)) := by
    rw [q2.block _ (by rw [W3_size]; omega) (by simp)]
    exact W3_box1 w d
  have hb4 : Below w.heap.size w w4 := (W3_below w d).grown q2 (by rw [W3_size]; omega) (fun k hk => by cases hk; omega)
  obtain ⟨cc, hcc⟩ : ∃ cc, cc = (Lib.byteCells m).toArray := ⟨_, rfl⟩
  have hi : (Ybaf.prog.info? 25).map (·.size) = some cc.size := by rw [hcc, Ybaf.row25]; simp [byteCells_length, hm]
  have hcs1 : cc.all (·.oneCell') = true := by
    rw [Array.all_eq_true_iff_forall_mem]
    intro u hu
    exact byteCells_oneCell m u (by rw [hcc] at hu; simpa using hu)
  have hzs : Z.size = cc.size := by rw [hcc]; simp [byteCells_length, hm]; rfl
  rw [← hcc] at hc2
  have HCC := Lib.hid hcc
  have HC1 := Lib.hid hc1
  have HC2 := Lib.hid hc2
  have HI := Lib.hid hi
  have HO := Lib.hid hcs1
  have HZ := Lib.hid hzs
  clear hc1 hc2 hi hcs1 hzs hcc q1 q2 hcs
  go_wp2_with (first
    | (refine wpList_load_row rfl 25 _ rfl (w.heap.size + 1) rfl 25 cc (0, 0) _ HC2.out Ybaf.underlying25 rfl HI.out ?_)
    | (refine wpList_store_row rfl 25 _ _ rfl w.heap.size cc rfl rfl 25 Z HC1.out HI.out HZ.out HO.out ?_))
  have hfin := setRow_heap w4 w.heap.size Z cc 25 (0, 0) HC1.out
  have hbel : Below w.heap.size w (w4.setRow w.heap.size cc) := hb4.trans ⟨rfl, rfl, rfl, by simp, fun k hk => setRow_other w4 w.heap.size k cc (by omega)⟩
  refine bodyPost_ret (v := .tuple #[.agg cc, .nilIface]) ?_ rfl ⟨by rw [HCC.out], hbel⟩
  rw [results_cell_tmp Ybaf.results20]
  simp [asAddr, run_loadVar_row _ w.heap.size 25 25 cc (0, 0) _ hfin Ybaf.underlying25 rfl HI.out]

set_option maxHeartbeats 1000000 in
/-- ParseAddress. -/
theorem parseAddress_any (m : List UInt8) (s d : ByteArray) (w : World) (T : TypeId) (x ev : Value) (hm : m.length = 20) (hs : s.size = 42) (hp : s.extract 0 2 = ⟨#[48, 120]⟩) (hd : s.extract 2 s.size = d) (hdl : d.data.toList = Lib.Hx.encode m)
    (h2 : w.cell? ⟨2, 0, none⟩ = some (.iface T x)) (h3 : w.cell? ⟨3, 0, none⟩ = some ev) :
    Calls Ybaf.prog 8 #[.string s] w fun e w' => e = .returned (.tuple #[.agg (Lib.byteCells m).toArray, .nilIface]) ∧ Below w.heap.size w w' := by
  have hb2 := World.block_lt_of_cell? w _ h2
  have hb3 := World.block_lt_of_cell? w _ h3
  simp only at hb2 hb3
  obtain ⟨cc, hcc⟩ : ∃ cc, cc = (Lib.byteCells m).toArray := ⟨_, rfl⟩
  have hi : (Ybaf.prog.info? 25).map (·.size) = some cc.size := by rw [hcc, Ybaf.row25]; simp [byteCells_length, hm]
  have hcs1 : cc.all (·.oneCell') = true := by
    rw [Array.all_eq_true_iff_forall_mem]
    intro u hu
    exact byteCells_oneCell m u (by rw [hcc] at hu; simpa using hu)
  have hzs : Z.size = cc.size := by rw [hcc]; simp [byteCells_length, hm]; rfl
  have HCC := Lib.hid hcc
  have HI := Lib.hid hi
  have HO := Lib.hid hcs1
  have HZ := Lib.hid hzs
  have HP := Lib.hid hp
  have HD := Lib.hid hd
  have HDL := Lib.hid hdl
  have bel0 : Below w.heap.size w (w.alloc (.cells Z 25)) := (Below.refl _ w).alloc (Nat.le_refl _) _
  clear hcc hi hcs1 hzs hp hd hdl
  go_enter Ybaf.func8, Ybaf.ntmps8
  go_wp2_with (go_at_call 20; refine (parse_any m s d (w.alloc (.cells Z 25)) T x ev hm hs HP.out HD.out HDL.out (by rw [bel0.cell (by exact hb2)]; exact h2) (by rw [bel0.cell (by exact hb3)]; exact h3)).mono ?_; rw [← HCC.out]; rintro e w4 ⟨rfl, q2⟩; refine Hid.out ?_)
  refine Lib.hid ?_
  have hc1 : w4.heap[w.heap.size]? = some (.cells Z 25 (0, 0)) := by
    rw [q2.block _ (by simp)]
    exact heap_alloc_new w (.cells Z 25)
  have HC1 := Lib.hid hc1
  clear hc1
  go_wp2_with (refine wpList_store_row rfl 25 _ _ rfl w.heap.size cc rfl rfl 25 Z HC1.out HI.out HZ.out HO.out ?_)
  have hfin := setRow_heap w4 w.heap.size Z cc 25 (0, 0) HC1.out
  have hbel : Below w.heap.size w (w4.setRow w.heap.size cc) := (bel0.trans (q2.mono (by simp))).trans ⟨rfl, rfl, rfl, by simp, fun k hk => setRow_other w4 w.heap.size k cc (by omega)⟩
  refine bodyPost_ret (v := .tuple #[.agg cc, .nilIface]) ?_ rfl ⟨by rw [HCC.out], hbel⟩
  rw [results_cell_tmp Ybaf.results8]
  simp [asAddr, run_loadVar_row _ w.heap.size 25 25 cc (0, 0) _ hfin Ybaf.underlying25 rfl HI.out]
end Go.Proofs.YbulkaqwaFmt
