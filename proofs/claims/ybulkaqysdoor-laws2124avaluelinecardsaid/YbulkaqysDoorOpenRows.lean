/-
  HOW THE SLICE OF SLICES OF BYTES IS OPENED.
-/
import Derived.Test.YbulkaqysDoorLawV
import Derived.Test.YbulkaqysDoorOpen
import Derived.Deep.Matrix
namespace Go.Proofs.YbulkaqysDoor
open Go Go.RowKit Go.ChangeShapes Go.WideShapes Go.ChangeAt

set_option maxRecDepth 100000 in
theorem open_rowed {H : Type} {enc : TypeId × Value → H} {W : World} {base : Nat} {v : Value} {d : DataW H} {ps : List MemPlace}
    (hok : Value.okWide Ybad.prog W .any base 23 v) (h : DataW.Trod enc Ybad.prog W 0 (fun _ => true) true 23 v d ps) : ∃ qo nq cq, v = .slice qo nq cq ∧ Rowed W qo nq := by
  obtain ⟨a0, len, cap, rfl⟩ := okWide_slice Ybad.underlying23 hok
  obtain ⟨fuel, hf⟩ := h
  rcases Go.Deep.open_int_rows Ybad.underlying23 Ybad.underlying22 Ybad.underlying5 (by kernel_rfl) (by kernel_rfl) hf with ⟨hcs, _⟩ | ⟨x, l, c, A, L, C, Z, hcs, _, hl, hm, _, hr⟩
  · simp [Value.cells] at hcs
    obtain ⟨rfl, rfl, rfl⟩ := hcs
    exact ⟨none, 0, 0, rfl, fun k hk => by omega⟩
  · simp [Value.cells] at hcs
    obtain ⟨rfl, rfl, rfl⟩ := hcs
    refine ⟨some x, len, cap, rfl, fun k hk => ?_⟩
    obtain ⟨h1, h2, h3, h4, h5, h6, h7⟩ := hr k (by omega)
    have hlen : (Lib.bytesOf ((Z k).take (L k))).length = L k := by rw [Lib.bytesOf_length, List.length_take]; omega
    refine ⟨x, A k, C k, Lib.bytesOf ((Z k).take (L k)), rfl, by rw [hlen]; exact h1, ?_⟩
    cases hA : A k with
    | none =>
      have hc0 := h6 hA
      have hl0 : L k = 0 := by omega
      exact .inl ⟨rfl, hc0, List.eq_nil_of_length_eq_zero (by rw [hlen]; exact hl0)⟩
    | some ad =>
      obtain ⟨_, hcell⟩ := h7 ad hA
      refine .inr ⟨ad, rfl, fun hp => ?_, fun j hj => ?_⟩
      · rw [hlen] at hp
        have := World.block_lt_of_cell? W (ad.add 0) (hcell 0 (by omega))
        rwa [add_block] at this
      · rw [hlen] at hj
        rw [hcell j (by omega)]
        have hw := h5 ((Z k).getD j 0) (by rw [List.getD_eq_getElem?_getD, List.getElem?_eq_getElem (by omega)]; exact List.getElem_mem _)
        rw [byteOf_int _ hw]
        congr 3
        simp [Lib.bytesOf, byteOf, List.getD_eq_getElem?_getD, show j < (Z k).length by omega]
end Go.Proofs.YbulkaqysDoor
