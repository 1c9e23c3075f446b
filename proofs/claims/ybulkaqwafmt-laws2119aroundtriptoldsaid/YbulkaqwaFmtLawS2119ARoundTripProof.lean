/-
  THE PROOF OF 'Rows.LawS2119ARoundTripToldSaid': a told and tied card. The walk (YbulkaqwaFmtLaw's 'law_any') never comes to fmt: so no text of fmt's is used.
-/
import Derived.Test.YbulkaqwaFmtRows
import Derived.Test.YbulkaqwaFmtTie
import Derived.Test.YbulkaqwaFmtCards
import Derived.Test.YbulkaqwaFmtOpen
import Derived.Stop.JoinedTold
import Derived.Stop.LaidErr
import Derived.SevenTiedAt
import Derived.Deep.DeepLaidRun
import Derived.WalkSmall
namespace Go.Proofs.YbulkaqwaFmt.lawS2119ARoundTrip
open Go.ChangeShapes Go.WideShapes Go.ChangeAt Go.RowKit
open Go.ChangeMaps (open_string shut_string)
open Go.Extern.Stop Go.Stop Go.Extern

theorem own : ownKnob Ybaf.prog.godebug = none := by kernel_rfl
theorem laidOut : laidOutB Ybaf.pinned.checked.prog = true := by kernel_rfl
theorem laidOut' : laidOutB Ybaf.prog = true := by kernel_rfl
theorem stopKnobs : Ybaf.pinned.checked.prog.stopKnobs = [] := by kernel_rfl
theorem quiet (os : Os) : Stop.quiet Ybaf.pinned.checked.prog os := by
  intro k hk
  rw [stopKnobs] at hk
  cases hk

/-- The names of the two listed variables, off the row. -/
def nmL : String := (Rows.lawS2119ARoundTripRow.named.getD 1 "")
def nmA : String := (Rows.lawS2119ARoundTripRow.named.getD 0 "")
theorem gL : Ybaf.prog.globalNamed nmL = some 3 := by kernel_rfl
theorem gA : Ybaf.prog.globalNamed nmA = some 2 := by kernel_rfl
theorem gLType : (Ybaf.prog.globals[3]?).map (·.type) = some 28 := by kernel_rfl
theorem gAType : (Ybaf.prog.globals[2]?).map (·.type) = some 28 := by kernel_rfl
theorem cells141 : Ybaf.prog.cellsOf 141 = 1 := by kernel_rfl
theorem cells9 : Ybaf.prog.cellsOf 9 = 1 := by kernel_rfl
/-- The dynamic type's name and the texts, off the listed data. -/
def nameIn : DataW Unit → String
  | .iface nm _ => nm
  | _ => ""
def textIn : DataW Unit → List UInt8
  | .iface _ (.ptr (.agg [.lit (.string l)])) => l
  | _ => []
def ptrName : String := nameIn Rows.laid_encoding_hex_ErrLength
def txtL : List UInt8 := textIn Rows.laid_encoding_hex_ErrLength
def txtA : List UInt8 := textIn Rows.laid_example_com_sluice_sluice_ErrInvalidAddress
theorem row139 (u : TypeId) (h : Ybaf.prog.typeName? 3 u = some ptrName) : u = 139 :=
  typeName_ptr_named (nm := "errors.errorString") (by kernel_rfl) (by kernel_rfl) (by decide) u (h.trans (congrArg some (by decide)))

/-- A package-level variable's row, set. -/
def setVar (v : Value) : Obj → Obj
  | .cells _ t frozen => .cells #[v] t frozen
  | o => o
/-- The world in which variables 3 and 2 hold errors that lie in blocks n and n + 1. -/
def twoVars (w : World) (n : Nat) : World :=
  { w with heap := (w.heap.modify 3 (setVar (.iface 139 (.pointer (some ⟨n, 0, none⟩))))).modify 2 (setVar (.iface 139 (.pointer (some ⟨n + 1, 0, none⟩)))) }

/-- One start that fits: the two sentinels as their initialisers lay them. -/
theorem laid_met (os : Os) (args : Array Value) : laidMet Ybaf.prog Rows.lawS2119ARoundTripRow.laid ((twoVars (World.holding Ybaf.prog os ⟨#[.cells #[.string ⟨txtL.toArray⟩] 141, .cells #[.string ⟨txtA.toArray⟩] 141], #[], []⟩) (World.holding Ybaf.prog default ⟨#[], #[], []⟩).heap.size).forCall (fun _ _ => 0) ⟨#[], args, []⟩).memory :=
  laidMet_of_run3 8 (by kernel_rfl) (by kernel_rfl) (by kernel_rfl)

set_option maxRecDepth 100000 in
set_option maxHeartbeats 1600000 in
theorem lifted (os : Os) (started : os.Started) (H : Type) (enc : TypeId × Value → H) :
    ReturnsInTold none {} Ybaf.checked os 3 .any Input.okWide ((OpenSpec.ofChange Rows.lawS2119ARoundTripSpec).preRow enc Ybaf.prog Ybaf.f3 [] false Rows.lawS2119ARoundTripRow.laid)
      (fun F => ((OpenSpec.ofChange Rows.lawS2119ARoundTripSpec).at F).post enc Ybaf.prog Ybaf.f3 false true false false) (aloneAtReturn Ybaf.prog) nothingAlways := by
  refine returnsInTold_of_row (C := Ybaf.checked) (s := OpenSpec.ofChange Rows.lawS2119ARoundTripSpec) (by kernel_rfl) own started (by kernel_rfl) Ybaf.func3
    (OpenSpec.witness_stopped_at (enc := enc) (C := Ybaf.checked) false (twoVars (World.holding Ybaf.prog os ⟨#[.cells #[.string ⟨txtL.toArray⟩] 141, .cells #[.string ⟨txtA.toArray⟩] 141], #[], []⟩) (World.holding Ybaf.prog default ⟨#[], #[], []⟩).heap.size) #[.slice none 0 0, .agg #[.int .u8 0, .int .u8 0, .int .u8 0, .int .u8 0, .int .u8 0, .int .u8 0, .int .u8 0, .int .u8 0, .int .u8 0, .int .u8 0, .int .u8 0, .int .u8 0, .int .u8 0, .int .u8 0, .int .u8 0, .int .u8 0, .int .u8 0, .int .u8 0, .int .u8 0, .int .u8 0], .string ByteArray.empty] rfl (by kernel_rfl) (by kernel_rfl) (by kernel_rfl)
      (OpenSpec.preRow_of_B rfl 8 (by kernel_rfl) (by kernel_rfl) (laid_met os _))) ?_
  intro F W base0 args ds gs before _ hF hval0 hW _ _ _ hL _
  have hval : ∀ (j : Nat) t v, Ybaf.f3.params[j]? = some t → args[j]? = some v → Value.okWide Ybaf.prog W .any base0 t v := hval0
  have hW' := hW
  obtain ⟨p, q, hA0, hV0, rfl, hfz, hnd⟩ := hW
  have hA : DataW.TrodAll enc Ybaf.prog W 0 (fun _ => true) true Ybaf.f3.params.toList args.toList ds p := hA0
  have hV : DataW.TrodVars enc Ybaf.prog W (fun _ => true) [nmA] gs q := hV0
  rw [Ybaf.params3] at hA hval
  obtain ⟨v0, vs0, d0, ds0, p0, q0, hargs, rfl, rfl, h0, r0⟩ := trodAll_cons hA
  obtain ⟨v1, vs1, d1, ds1, p1, q1, rfl, rfl, rfl, h1, r1⟩ := trodAll_cons r0
  obtain ⟨v2, vs2, d2, ds2, p2, q2, rfl, rfl, rfl, h2, r2⟩ := trodAll_cons r1
  obtain ⟨rfl, rfl, rfl⟩ := trodAll_nil r2
  obtain rfl : args = #[v0, v1, v2] := by cases args; simp_all
  have k0 := h0
  have lt0 : ∀ x ∈ p0, x.block < W.heap.size := by obtain ⟨m, hm⟩ := k0; exact DataW.trod_lt m _ _ _ hm
  have k1 := h1
  have lt1 : ∀ x ∈ p1, x.block < W.heap.size := by obtain ⟨m, hm⟩ := k1; exact DataW.trod_lt m _ _ _ hm
  obtain ⟨ao, cap, lb, rfl, hsrc⟩ := open_src Ybaf.underlying22 Ybaf.underlying5 (by kernel_rfl) (hval 0 22 v0 rfl rfl) h0
  obtain ⟨m, hm, rfl⟩ := open_arr Ybaf.underlying23 Ybaf.underlying5 (by kernel_rfl) (by kernel_rfl) (hval 1 23 v1 rfl rfl) h1
  obtain ⟨a2, rfl, rfl, rfl, w2⟩ := open_string Ybaf.underlying9 (hval 2 9 v2 rfl rfl) h2
  have hLL : laidMet Ybaf.prog ((nmL, .iface ptrName (.ptr (.agg [.lit (.string txtL)]))) :: [(nmA, .iface ptrName (.ptr (.agg [.lit (.string txtA)])))]) W := hL
  obtain ⟨aL, sL, hvL, _⟩ := laid_sentinel hLL gL gLType Ybaf.underlying28 row139 Ybaf.underlying139 Ybaf.underlying141 rfl rfl Ybaf.underlying9 cells141 cells9
  obtain ⟨aA, sA, hvA, _⟩ := laid_sentinel hLL.tail gA gAType Ybaf.underlying28 row139 Ybaf.underlying139 Ybaf.underlying141 rfl rfl Ybaf.underlying9 cells141 cells9
  obtain ⟨rfl, rfl⟩ := hV.unique (vars_read1 enc gA gAType Ybaf.underlying28 hvA trivial _)
  clear hA0 hV0 hval0
  have c3 : W.cell? ⟨3, 0, none⟩ = some (.iface 139 (.pointer (some aL))) := by simpa using World.var?_cell gL hvL 0
  have c2 : W.cell? ⟨2, 0, none⟩ = some (.iface 139 (.pointer (some aA))) := by simpa using World.var?_cell gA hvA 0
  have l2 : 2 < W.heap.size := World.block_lt_of_cell? W _ c2
  refine (law_any ao cap lb m a2 W _ 139 _ _ hm rfl hsrc c2 c3).mono fun e W' ⟨he, bel⟩ => ?_
  subst he
  refine ⟨_, rfl, _, _, _, [], _, [.cell 2 0], hW', trodAll_mk1 (shut_bool Ybaf.underlying4 _), (trodAll_cons_mk (Below.trod laidOut' (by kernel_rfl) (of_decide_eq_true (by kernel_rfl)) k0 bel lt0) (trodAll_cons_mk (Below.trod laidOut' (by kernel_rfl) (of_decide_eq_true (by kernel_rfl)) k1 bel lt1) (trodAll_cons_mk (shut_string Ybaf.underlying9 w2) trodAll_mk0))), ?_, bel.frame _, fun h => by cases h⟩
  exact vars_read1 enc gA gAType Ybaf.underlying28 (var?_below bel gA l2 hvA) trivial _

/-- THE STATEMENT -/
theorem proved : Rows.LawS2119ARoundTripToldSaid :=
  Claim7.holds_of_told_tied_any_at .later 3 Ybaf.f3 _ _ [] _ _ _ _ _ (by kernel_rfl) rfl rfl rfl laidOut (by kernel_rfl) rfl ⟨rfl, rfl, rfl, rfl, rfl, rfl, rfl⟩ rfl rfl (by kernel_rfl) (by kernel_rfl) Ybaf.func3 (by kernel_rfl)
    (of_decide_eq_true (by kernel_rfl)) (by unfold Func.isWrapper; first | (rw [if_pos (by decide +kernel)]; kernel_rfl) | (rw [if_neg (by decide +kernel)]; exact ⟨rfl, rfl⟩)) (by kernel_rfl) rfl stopKnobs.symm (by kernel_rfl)
    (by kernel_rfl) (by kernel_rfl) (by kernel_rfl) (by kernel_rfl) (by kernel_rfl) (by kernel_rfl) (by kernel_rfl) (by kernel_rfl) (by kernel_rfl) rfl (by kernel_rfl) rfl rfl
    rfl rfl
    rfl (by kernel_rfl) (by kernel_rfl) (by kernel_rfl) (by decide) (by kernel_rfl) lawS2119ARoundTrip_row_tie
    (OpenClaim.moreEntering_of (by kernel_rfl) (by kernel_rfl) (by kernel_rfl) (by kernel_rfl) (by kernel_rfl) (by kernel_rfl) (by kernel_rfl) (by kernel_rfl) (by kernel_rfl) (by kernel_rfl))
    ⟨_, WideRow.started_initial, quiet _⟩
    (fun os started _ H enc _ => lifted os started H enc)
#print axioms proved
end Go.Proofs.YbulkaqwaFmt.lawS2119ARoundTrip
