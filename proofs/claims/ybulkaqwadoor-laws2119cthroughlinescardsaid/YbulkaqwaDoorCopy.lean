/-
  THE WALK OF zzs2119ccopy; a slice that came in.
-/
import Derived.Test.YbulkaqwaDoorLine
import Derived.Laws.CopyOwn
import Derived.WalkSpells
namespace Go.Proofs.YbulkaqwaDoor
open Go Go.RowKit

/-- A slice of bytes that came in, '.slice ao l.length cap': nil, or an address whose first cells hold the bytes l. -/
def Src (w : World) (ao : Option Addr) (cap : Nat) (l : List UInt8) : Prop :=
  (ao = none ∧ cap = 0 ∧ l = []) ∨ ∃ ad, ao = some ad ∧ (0 < l.length → ad.block < w.heap.size) ∧ ∀ j (hj : j < l.length), w.cell? (ad.add j) = some (.int .u8 (l[j].toNat : Int))

theorem add_block (ad : Addr) (j : Nat) : (ad.add j).block = ad.block := by
  unfold Addr.add; split <;> rfl

theorem Src.below {w w' : World} {ao : Option Addr} {cap : Nat} {l : List UInt8} (h : Src w ao cap l) {B : Nat} (hb : Below B w w') (hB : w.heap.size ≤ B) : Src w' ao cap l := by
  rcases h with h | ⟨ad, rfl, h1, h2⟩
  · exact .inl h
  · refine .inr ⟨ad, rfl, fun h => Nat.lt_of_lt_of_le (h1 h) hb.size, fun j hj => ?_⟩
    have := h1 (by omega)
    rw [hb.cell (by rw [add_block]; omega)]
    exact h2 j hj


theorem Fr.setRow {B : Nat} {a w : World} {g : Nat} (h : Fr B a w) (hb : B ≤ g) (cur cs : Array Value) (fz : Nat × Nat) (hg : w.heap[g]? = some (.cells cur 5 fz)) : Fr B a (w.setRow g cs) :=
  ⟨h.1.trans ⟨rfl, rfl, rfl, by simp, fun k hk => setRow_other w g k cs (by omega)⟩, fun k o hk hb' ho => by
    have h1 := h.2 k o hk hb' ho
    by_cases e : k = g
    · subst e
      rw [hg] at h1
      exact absurd (Option.some.inj h1).symm (ho _ _)
    · rw [setRow_other w g k cs e]
      exact h1⟩

set_option maxHeartbeats 1000000 in
/-- zzs2119ccopy -/
theorem copy_any (ao : Option Addr) (cap : Nat) (lb : List UInt8) (w : World) (hlb : lb.length ≤ 1024) (hsrc : Src w ao cap lb) :
    Calls Ybad.prog 6 #[.slice ao lb.length cap] w fun e w' => ∃ v', e = .returned v' ∧ Own w' w.heap.size v' lb ∧ Fr w.heap.size w w' := by
  have hnn := fun w => Lib.run_eql_slice_nil (P := Ybad.prog) w 22 5 ao lb.length cap 0 0 Ybad.underlying22
  rcases hsrc with ⟨rfl, rfl, rfl⟩ | ⟨ad, rfl, hbl, hc⟩
  · have hnn0 := fun w => Lib.run_eql_slice_nil (P := Ybad.prog) w 22 5 none 0 0 0 0 Ybad.underlying22
    clear hnn
    go_enter Ybad.func6, Ybad.ntmps6
    go_wp2
    go_ret
    exact ⟨_, rfl, Own.nil _ _, Fr.refl _ _⟩
  · obtain ⟨i0, hi, hz0, hz1, hz2⟩ := info_parts byt.i5
    have hmk : (Instr.makeSlice 22 (.int .i64 (lb.length : Int)) (.int .i64 (lb.length : Int))).run Ybad.prog w = .ok (.slice (some ⟨w.heap.size, 0, none⟩) lb.length lb.length) (w.alloc (.cells (madeCells #[.int .u8 0] lb.length) 5)) := by
      have h := run_make (P := Ybad.prog) w 22 5 i0 (.int .u8 0) Ybad.underlying22 hi hz0 .i64 .i64 (lb.length : Int) (lb.length : Int) (by omega) (by omega) (by rw [hz2]; omega) (by omega)
      rw [hz1, Nat.mul_one, Int.toNat_natCast] at h
      exact h
    have hnew := heap_alloc_new w (.cells (madeCells #[.int .u8 0] lb.length) 5)
    have hcs : (madeCells #[Value.int .u8 0] lb.length).size = lb.length := size_madeCells _ _
    obtain ⟨M, hM⟩ : ∃ M, M = madeCells #[Value.int .u8 0] lb.length := ⟨_, rfl⟩
    rw [← hM] at hmk hnew hcs
    have HN := Lib.hid hnew
    have HCS := Lib.hid hcs
    have hrow := setRow_heap (w.alloc (.cells M 5)) w.heap.size M (M.toList.take 0 ++ (Lib.byteCells lb ++ M.toList.drop (0 + (Lib.byteCells lb).length))).toArray 5 (0, 0) hnew
    have hsp : (M.toList.take 0 ++ (Lib.byteCells lb ++ M.toList.drop (0 + (Lib.byteCells lb).length))).toArray = (Lib.byteCells lb).toArray := by
      rw [List.drop_eq_nil_of_le (by rw [byteCells_length, Array.length_toList, hcs]; omega)]
      simp
    have HROW := Lib.hid hrow
    have HSP := Lib.hid hsp
    have hcell : ∀ j v, (Lib.byteCells lb)[j]? = some v → (w.alloc (.cells M 5)).cell? (ad.add j) = some v := by
      intro j v hv
      obtain ⟨hj, rfl⟩ := byteCells_getElem? lb j v hv
      have hb := hbl (by omega)
      rw [World.cell?_alloc_lt _ _ _ (by rw [add_block]; exact hb)]
      exact hc j hj
    have HCELL := Lib.hid hcell
    have fr0 : Fr w.heap.size w (w.alloc (.cells M 5)) := (Fr.refl _ w).alloc (Nat.le_refl _) _
    clear hnew hcs hrow hsp hcell hc hM
    go_enter Ybad.func6, Ybad.ntmps6
    go_wp2_with (refine wpList_copy_own (w := w.alloc (.cells M 5)) rfl _ _ 22 22 rfl 5 Ybad.underlying22 (by rw [hi, Option.map_some, hz1]) w.heap.size 0 lb.length lb.length ad lb.length cap rfl rfl M 5 HN.out (Lib.byteCells lb) (by rw [byteCells_length]; exact (Nat.min_self _).symm) HCELL.out (by rw [byteCells_length, HCS.out]; omega) (byteCells_oneCell lb) ?_; rw [HSP.out]; refine Hid.out ?_)
    refine Lib.hid ?_
    have fr1 := fr0.setRow (Nat.le_refl _) M (Lib.byteCells lb).toArray (0, 0) HN.out
    have ow : Own ((w.alloc (.cells M 5)).setRow w.heap.size (Lib.byteCells lb).toArray) w.heap.size (.slice (some ⟨w.heap.size, 0, none⟩) lb.length lb.length) lb := by
      refine ⟨by simp [byteCells_length], .inr ⟨w.heap.size, lb.length, (Lib.byteCells lb).toArray, rfl, Nat.le_refl _, ?_, Nat.le_refl _, by unfold maxLen; omega, by simp [byteCells_length], ?_⟩⟩
      · rw [← HSP.out]; exact HROW.out
      · rw [List.toList_toArray]
        exact List.take_of_length_le (by rw [byteCells_length]; omega)
    generalize hW : (w.alloc (.cells M 5)).setRow w.heap.size (Lib.byteCells lb).toArray = W at fr1 ow ⊢
    clear hW HROW fr0
    go_wp2
    go_ret
    exact ⟨_, rfl, ow, fr1⟩
end Go.Proofs.YbulkaqwaDoor
