/-
  HOW THE ARGUMENTS OF THE LAW ARE OPENED: a slice of bytes as a list of bytes.
-/
import Derived.Test.YbulkaqysDoorBody
import Derived.ProofKit
import Derived.OpenShut
import Derived.ShutString
import Derived.ChangeOld
import Derived.Below
namespace Go.Proofs.YbulkaqysDoor
open Go Go.RowKit Go.ChangeShapes Go.WideShapes Go.ChangeAt

/-- The byte that a cell holds. -/
def byteOf : Value → UInt8
  | .int _ z => UInt8.ofNat z.toNat
  | _ => 0

theorem byteOf_int (z : Int) (h : (Lit.int .u8 z).wf = true) : Value.int .u8 z = .int .u8 ((byteOf (.int .u8 z)).toNat : Int) := by
  obtain ⟨h0, h1⟩ := bounds_u8 h
  have e : (byteOf (.int .u8 z)).toNat = z.toNat := Lib.Hx.byte_toNat z h0 (by omega)
  rw [e]
  congr 1
  omega

/-- An array of bytes: its cells are the cells of a list of bytes. -/
theorem open_arr {H : Type} {enc : TypeId × Value → H} {P : Program} {W : World} {base base' n : Nat} {sp : Nat → Bool} {held : Bool} {t : TypeId} {v : Value} {d : DataW H} {ps : List MemPlace}
    (ht : P.underlying t = some (.array n 5)) (he : P.underlying 5 = some (.int .u8)) (hce : P.cellsOf 5 = 1) (hct : P.cellsOf t = n)
    (hok : Value.okWide P W .any base t v) (h : DataW.Trod enc P W base' sp held t v d ps) : ∃ m : List UInt8, m.length = n ∧ v = .agg (Lib.byteCells m).toArray := by
  have hok' := hok
  simp only [Value.okWide, ht] at hok'
  obtain ⟨cs, rfl, hs, _⟩ := hok'
  obtain ⟨fuel, hf⟩ := h
  obtain ⟨xs, m, _, _, _, hx, hi⟩ := DataW.trod_array ht hf
  rw [hct] at hs
  have hcell : ∀ i (h : i < cs.size), ∃ z : Int, cs[i] = .int .u8 z ∧ (Lit.int .u8 z).wf = true := by
    intro i h
    have h1 := hi i (by omega)
    rw [List.getElem?_eq_getElem (by omega)] at h1
    obtain ⟨z, hc, _, hw⟩ := DataW.trod_int he h1
    refine ⟨z, ?_, hw⟩
    rw [hce] at hc
    have := congrArg (·[0]?) hc
    simpa [Value.cells, List.getElem?_take, List.getElem?_drop, h] using this
  refine ⟨cs.toList.map byteOf, by simp [hs], ?_⟩
  congr 1
  apply Array.ext'
  show cs.toList = (Lib.byteCells (cs.toList.map byteOf))
  apply List.ext_getElem?
  intro i
  by_cases h : i < cs.size
  · obtain ⟨z, e, hw⟩ := hcell i h
    have h1 : cs.toList[i]? = some (.int .u8 z) := by rw [Array.getElem?_toList, Array.getElem?_eq_getElem h, e]
    simp only [Lib.byteCells, List.getElem?_map, h1, Option.map_some]
    rw [← byteOf_int z hw]
  · have h1 : cs.toList[i]? = none := by rw [Array.getElem?_toList, Array.getElem?_eq_none (by omega)]
    simp only [Lib.byteCells, List.getElem?_map, h1, Option.map_none]

/-- A slice of bytes that came in. -/
theorem open_src {H : Type} {enc : TypeId × Value → H} {P : Program} {W : World} {base : Nat} {v : Value} {d : DataW H} {ps : List MemPlace}
    (ht : P.underlying 22 = some (.slice 5)) (he : P.underlying 5 = some (.int .u8)) (hce : P.cellsOf 5 = 1)
    (hok : Value.okWide P W .any base 22 v) (h : DataW.Trod enc P W 0 (fun _ => true) true 22 v d ps) : ∃ ao cap lb, v = .slice ao lb.length cap ∧ Src W ao cap lb := by
  obtain ⟨a0, len, cap, rfl⟩ := okWide_slice ht hok
  obtain ⟨fuel, hf⟩ := h
  rcases open_ints ht he hce hf with ⟨hcs, _⟩ | ⟨x, l, c, zs, hcs, _, hl, hm, hz, _, hcell, hwz⟩
  · simp [Value.cells] at hcs
    obtain ⟨rfl, rfl, rfl⟩ := hcs
    exact ⟨none, 0, [], rfl, .inl ⟨rfl, rfl, rfl⟩⟩
  · simp [Value.cells] at hcs
    obtain ⟨rfl, rfl, rfl⟩ := hcs
    have hz' : zs.length = cap := by simpa using hz
    have hlen : (Lib.bytesOf (zs.take len)).length = len := by rw [Lib.bytesOf_length, List.length_take]; omega
    refine ⟨some x, cap, Lib.bytesOf (zs.take len), by rw [hlen], .inr ⟨x, rfl, fun hp => ?_, fun j hj => ?_⟩⟩
    · rw [hlen] at hp
      have := World.block_lt_of_cell? W (x.add 0) (hcell 0 (by omega))
      rwa [add_block] at this
    · rw [hlen] at hj
      rw [hcell j (by omega)]
      have hw := hwz (zs.getD j 0) (by rw [List.getD_eq_getElem?_getD, List.getElem?_eq_getElem (by omega)]; exact List.getElem_mem _)
      rw [byteOf_int _ hw]
      congr 3
      simp [Lib.bytesOf, byteOf, List.getD_eq_getElem?_getD, show j < zs.length by omega]
end Go.Proofs.YbulkaqysDoor
