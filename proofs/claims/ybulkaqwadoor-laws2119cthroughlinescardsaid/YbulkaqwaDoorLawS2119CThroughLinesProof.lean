/-
  THE PROOF OF 'Rows.LawS2119CThroughLinesCardSaid': a tied card. The row first (the walk is YbulkaqwaDoorLawB's 'law_through_any'), then the card by the given tie.
-/
import Derived.Test.YbulkaqwaDoorRows
import Derived.Test.YbulkaqwaDoorTie
import Derived.Test.YbulkaqwaDoorCards
import Derived.Test.YbulkaqwaDoorLawB
import Derived.Test.YbulkaqwaDoorOpen
import Derived.ProofKit
import Derived.OpenShut
import Derived.Lay
import Derived.SevenTiedAt
import Derived.Stop.Joined
import Derived.Stop.LaidErr
import Derived.Lib.LaidTab
import Derived.OpenVars
namespace Go.Proofs.YbulkaqwaDoor.lawS2119CThroughLines
open Go Go.ChangeShapes Go.WideShapes Go.ChangeAt Go.RowKit

theorem own : ownKnob Ybad.prog.godebug = none := by kernel_rfl
theorem laidOut : laidOutB Ybad.prog = true := by kernel_rfl
theorem gPType : (Ybad.prog.globals[1]?).map (·.type) = some 63 := by kernel_rfl

/-- The table of the powers of ten, off the row's condition. -/
theorem tab_of {W : World} (h : laidMetH Ybad.prog Rows.lawS2119CThroughLinesRow.laid W) : Tab W := by
  rw [MakeChecks.laidMetH_plain _ _ _ (by kernel_rfl)] at h
  have h2 : laidMet Ybad.prog ((Rows.lawS2119CThroughLinesRow.laid.getD 0 (nmP, .nil)) :: (Rows.lawS2119CThroughLinesRow.laid.getD 1 (nmP, .nil)) :: [(nmP, Lib.tabData .u64 Lib.pow10Tab), Rows.lawS2119CThroughLinesRow.laid.getD 3 (nmP, .nil)]) W := h
  exact Lib.tabIs_of_head gP gPType Ybad.underlying63 Ybad.underlying24 (by kernel_rfl) (by kernel_rfl) h2.tail.tail

theorem one_var {H : Type} {enc : TypeId × Value → H} {P : Program} {W : World} {sp : Nat → Bool} {n : String} {q : List MemPlace} : ∀ {gs : List (DataW H)}, DataW.TrodVars enc P W sp [n] gs q → ∃ g1, gs = [g1]
  | [], h => h.elim
  | [g1], _ => ⟨g1, rfl⟩
  | _ :: _ :: _, h => by
    obtain ⟨_, _, _, _, _, _, _, _, _, _, hs, _⟩ := h
    exact hs.elim

set_option maxRecDepth 100000 in
set_option maxHeartbeats 1000000 in
theorem lifted (os : Os) (started : os.Started) (H : Type) (enc : TypeId × Value → H) :
    ReturnsInHanded {} Ybad.checked os 4 .any (fun w args => (Rows.lawS2119CThroughLinesSpec.pre enc Ybad.prog Ybad.f4 Rows.lawS2119CThroughLinesRow.domain false w args ∧ laidMetH Ybad.prog Rows.lawS2119CThroughLinesRow.laid w) ∧ sizedMet enc Ybad.prog Ybad.f4 (OpenSpec.ofChange Rows.lawS2119CThroughLinesSpec) false w args)
      (Rows.lawS2119CThroughLinesSpec.post enc Ybad.prog Ybad.f4 false true false false) := by
  refine returnsInHanded_of_change_and (C := Ybad.checked) (X := fun w _ => laidMetH Ybad.prog Rows.lawS2119CThroughLinesRow.laid w) (fun _ _ _ hh h => h.of_heap hh) own started (by kernel_rfl) Ybad.func4
    (ChangeSpec.witness_shaped (enc := enc) (C := Ybad.checked) (os := os) (X := fun w _ => laidMetH Ybad.prog Rows.lawS2119CThroughLinesRow.laid w) false (World.laidAll Ybad.prog os Rows.lawS2119CThroughLinesRow.laid) #[.slice none 0 0, .agg #[.int .u8 0, .int .u8 0, .int .u8 0, .int .u8 0, .int .u8 0, .int .u8 0, .int .u8 0, .int .u8 0, .int .u8 0, .int .u8 0, .int .u8 0, .int .u8 0, .int .u8 0, .int .u8 0, .int .u8 0, .int .u8 0, .int .u8 0, .int .u8 0, .int .u8 0, .int .u8 0], .int .u64 0, .int .u64 0, .int .u64 0] 8 (World.laidAll_os _ _ _)
      (World.shaped_of_ZipB (by kernel_rfl) (by kernel_rfl)) (by kernel_rfl) (by kernel_rfl) (by kernel_rfl)
      (by rw [MakeChecks.laidMetH_plain _ _ _ (by kernel_rfl)]; exact laidMet_laidAll _ (by kernel_rfl) (by kernel_rfl))) ?_
  intro W base args ds gs before hval0 hW _ _ hL _
  have hval : ∀ (j : Nat) t v, Ybad.f4.params[j]? = some t → args[j]? = some v → Value.okWide Ybad.prog W .any base t v := hval0
  have hW' := hW
  obtain ⟨p, q, hA0, hV, rfl, hfz, hnd⟩ := hW
  have hA : DataW.TrodAll enc Ybad.prog W 0 (fun _ => true) true Ybad.f4.params.toList args.toList ds p := hA0
  rw [Ybad.params4] at hA hval
  obtain ⟨v0, vs0, d0, ds0, p0, q0, hargs, rfl, rfl, h0, r0⟩ := trodAll_cons hA
  obtain ⟨v1, vs1, d1, ds1, p1, q1, rfl, rfl, rfl, h1, r1⟩ := trodAll_cons r0
  obtain ⟨v2, vs2, d2, ds2, p2, q2, rfl, rfl, rfl, h2, r2⟩ := trodAll_cons r1
  obtain ⟨v3, vs3, d3, ds3, p3, q3, rfl, rfl, rfl, h3, r3⟩ := trodAll_cons r2
  obtain ⟨v4, vs4, d4, ds4, p4, q4, rfl, rfl, rfl, h4, r4⟩ := trodAll_cons r3
  obtain ⟨rfl, rfl, rfl⟩ := trodAll_nil r4
  obtain rfl : args = #[v0, v1, v2, v3, v4] := by cases args; simp_all
  obtain ⟨g1, rfl⟩ := one_var hV
  have k0 := h0
  have lt0 : ∀ x ∈ p0, x.block < W.heap.size := by obtain ⟨m, hm⟩ := k0; exact DataW.trod_lt m _ _ _ hm
  have k1 := h1
  have lt1 : ∀ x ∈ p1, x.block < W.heap.size := by obtain ⟨m, hm⟩ := k1; exact DataW.trod_lt m _ _ _ hm
  obtain ⟨ao, cap, lb, rfl, hsrc⟩ := open_src Ybad.underlying22 Ybad.underlying5 (by kernel_rfl) (hval 0 22 v0 rfl rfl) h0
  obtain ⟨m, hm, rfl⟩ := open_arr Ybad.underlying23 Ybad.underlying5 (by kernel_rfl) (by kernel_rfl) (hval 1 23 v1 rfl rfl) h1
  obtain ⟨x2, rfl, rfl, rfl, w2⟩ := open_int Ybad.underlying24 (hval 2 24 v2 rfl rfl) h2
  obtain ⟨x3, rfl, rfl, rfl, w3⟩ := open_int Ybad.underlying24 (hval 3 24 v3 rfl rfl) h3
  obtain ⟨x4, rfl, rfl, rfl, w4⟩ := open_int Ybad.underlying24 (hval 4 24 v4 rfl rfl) h4
  have b2 := bounds_u64 w2
  have b3 := bounds_u64 w3
  have b4 := bounds_u64 w4
  obtain ⟨n2, rfl⟩ : ∃ n : Nat, x2 = n := ⟨x2.toNat, by omega⟩
  obtain ⟨n3, rfl⟩ : ∃ n : Nat, x3 = n := ⟨x3.toNat, by omega⟩
  obtain ⟨n4, rfl⟩ : ∃ n : Nat, x4 = n := ⟨x4.toNat, by omega⟩
  clear hA0 hval0
  have ht : Tab W := tab_of hL
  have l1 : 1 < W.heap.size := World.block_lt_of_cell? W _ (Lib.TabIs.cell ht gP 0 (by decide))
  refine (law_through_any ao cap lb m n2 n3 n4 W _ hm (by omega) (by omega) (by omega) rfl hsrc ht l1).mono fun e W' ⟨he, bel⟩ => ?_
  subst he
  exact ⟨_, rfl, _, _, _, [], _, q, hW', trodAll_mk1 (shut_bool Ybad.underlying4 _), (trodAll_cons_mk (Below.trod laidOut (by kernel_rfl) (of_decide_eq_true (by kernel_rfl)) k0 bel lt0) (trodAll_cons_mk (Below.trod laidOut (by kernel_rfl) (of_decide_eq_true (by kernel_rfl)) k1 bel lt1) (trodAll_cons_mk (shut_int Ybad.underlying24 w2) (trodAll_cons_mk (shut_int Ybad.underlying24 w3) (trodAll_cons_mk (shut_int Ybad.underlying24 w4) trodAll_mk0))))), Below.trodVars laidOut bel (by kernel_rfl) hV, bel.frame _, fun h => by cases h⟩

theorem over : Rows.LawS2119CThroughLinesSaid :=
  OpenClaim.holds_of_wide 4 Ybad.f4 rfl rfl rfl rfl rfl rfl rfl ⟨rfl, rfl, rfl, rfl, rfl⟩ rfl rfl rfl rfl rfl (by kernel_rfl) Ybad.func4 (by kernel_rfl)
    (of_decide_eq_true (by kernel_rfl)) (by unfold Func.isWrapper; first | (rw [if_pos (by decide +kernel)]; kernel_rfl) | (rw [if_neg (by decide +kernel)]; exact ⟨rfl, rfl⟩))
    (fun os started H enc _ => lifted os started H enc)

/-- THE STATEMENT -/
theorem proved : Rows.LawS2119CThroughLinesCardSaid :=
  Claim7.holds_tied_plain_at .later [] [.data, .data, .data, .data] true Rows.lawS2119CThroughLinesCard.stood.harness false
    over (fun _ h => by cases h) (by kernel_rfl) (fun _ h => by cases h) lawS2119CThroughLines_row_tie rfl ⟨rfl, rfl⟩ (by kernel_rfl) rfl
    (fun f fn hf hfn => by
      obtain rfl : f = 4 := Option.some.inj ((show Ybad.prog.funcNamed Rows.lawS2119CThroughLinesRow.func = some 4 by kernel_rfl).symm.trans hf) |>.symm
      obtain rfl : fn = Ybad.f4 := (Option.some.inj (Ybad.func4.symm.trans hfn)).symm
      exact ⟨by kernel_rfl, fun j t ht => by
        rw [Ybad.params4] at ht
        have hm : t ∈ [22, 23, 24, 24, 24] := by simpa using Array.mem_of_getElem? ht
        have hall : ([22, 23, 24, 24, 24].all fun u => !Ybad.prog.wantsStandIn u) = true := by kernel_rfl
        exact (show Ybad.prog.wantsStandIn t = false by simpa using List.all_eq_true.1 hall t hm)⟩)
    (by kernel_rfl)
#print axioms proved
end Go.Proofs.YbulkaqwaDoor.lawS2119CThroughLines
