/-
  THE WALK OF AppendBody where the value is an index within the quoted values.
-/
import Derived.Test.YbulkaqysDoorBody
namespace Go.Proofs.YbulkaqysDoor
open Go Go.RowKit

/-- append(b, x...) at a step of a region that draws its order; x a slice that came in. -/
theorem step_app_src {w : World} {ops : Array Oper} {o : Oper} {a : Act} {K : Act → World → Prop} {Q : Exit → Act → World → Prop} {E : Prop} (hgd : o.guard = none) (sl x : Operand)
    (ho : o.op = .call { callee := .builtin .append, args := #[sl, x], argTypes := #[22, 22] })
    (B : Nat) (v : Value) (l : List UInt8) (hs : a.eval sl = v) (hown : Own w B v l) (ao : Option Addr) (c : Nat) (m : List UInt8) (hx : a.eval x = .slice ao m.length c) (hsrc : Src w ao c m)
    (hlim : l.length + m.length ≤ 140737488355328) (hB : B ≤ w.heap.size)
    (h : ∀ v' w', Own w' B v' (l ++ m) → Fr B w w' → K (a.put o.dst v') w') : if Region.wanted o (yielded ops a.tmps) = true then Oper.wp Ybad.prog o a w K Q else E := by
  have hw : Region.wanted o (yielded ops a.tmps) = true := by simp [Region.wanted, hgd]
  rw [if_pos hw]
  obtain ⟨i0, hi, hz0, hz1, hz2⟩ := info_parts byt.i5
  rcases hsrc with ⟨rfl, rfl, rfl⟩ | ⟨ad, rfl, _, hc⟩
  · have hrun := run_append_owned_none (P := Ybad.prog) (w := w) B 22 o.type 5 i0 1 byt.u22 hi v _ _ hown
    have hK := h v w (by simpa using hown) (Fr.refl _ _)
    have hx' : a.eval x = .slice none 0 0 := hx
    unfold Oper.wp
    simp [execOp, ho, resolve, invoke, builtin, hs, hx', hrun, Result.andThen]
    exact hK
  · refine wp_append_own w sl x 22 ho B 5 i0 (.int .u8 0) 1 1 byt.u22 hi hz0 hz1 hz2 rfl (by decide) v _ _ hs hown ad m.length c (Lib.byteCells m) hx (by simp [byteCells_length]) ?_ (byteCells_oneCell m) (by unfold maxLen; omega) (by omega) hB ?_
    · intro j u hu
      obtain ⟨hj, rfl⟩ := byteCells_getElem? m j u hu
      exact hc j hj
    · intro v' w' h1 h2 _
      refine h v' w' ?_ ((Fr.refl B w).grown hown h2 hB)
      show w'.ownsRow B 5 1 v' (l ++ m).length (Lib.byteCells (l ++ m))
      rw [byteCells_append, List.length_append]
      exact h1

def vNm : ByteArray := ⟨#[118, 97, 108, 117, 101]⟩
/-- What AppendBody appends for the quoted value q. -/
def valOf (q : List UInt8) : List UInt8 := [44, 34] ++ vNm.data.toList ++ [34, 58] ++ q

set_option maxHeartbeats 4000000 in
/-- AppendBody at an index. -/
theorem body_val (B : Nat) (v : Value) (l q : List UInt8) (L nq cq k cr : Nat) (ad : Addr) (ar : Option Addr) (fr to pa sg : Value) (w : World) (hown : Own w B v l) (hB : B ≤ w.heap.size) (hlim : l.length + q.length + 100 ≤ 140737488355328)
    (hL : w.cell? ⟨L, 2, none⟩ = some (.slice (some ad) nq cq)) (hLB : ∀ w', Fr B w w' → w'.cell? ⟨L, 2, none⟩ = some (.slice (some ad) nq cq))
    (hk : k < nq) (hcq : w.cell? (ad.add k) = some (.slice ar q.length cr)) (hadB : ad.block < B)
    (hsq : ∀ w', Fr B w w' → Src w' ar cr q) :
    Calls Ybad.prog 7 #[.pointer (some ⟨L, 0, none⟩), v, .agg #[fr, to, pa, .int .i64 (k : Int), sg]] w fun e w' => ∃ v', e = .returned v' ∧ Own w' B v' (l ++ valOf q ++ [125, 10]) ∧ Fr B w w' := by
  have hlt : L < w.heap.size := World.block_lt_of_cell? w _ hL
  have g0 : Fr B w (w.alloc (.cells #[fr, to, pa, .int .i64 (k : Int), sg] 38)) := (Fr.refl B w).alloc hB _
  have b38 := heap_alloc_new w (.cells #[fr, to, pa, .int .i64 (k : Int), sg] 38)
  have o0 := hown.alloc (.cells #[fr, to, pa, .int .i64 (k : Int), sg] 38)
  have z0 : (w.alloc (.cells #[fr, to, pa, .int .i64 (k : Int), sg] 38)).heap.size = w.heap.size + 1 := by simp
  have hge : decide ((k : Int) ≥ (nq : Int)) = false := decide_eq_false (by omega)
  have hge' : decide ((nq : Int) ≤ (k : Int)) = false := decide_eq_false (by omega)
  have hkn : (k : Int) ≠ -1 := by omega
  have hki : (0 : Int) ≤ (k : Int) := by omega
  have hki2 : (k : Int) < (nq : Int) := by omega
  obtain ⟨W0, hW0⟩ : ∃ W0, W0 = w.alloc (.cells #[fr, to, pa, .int .i64 (k : Int), sg] 38) := ⟨_, rfl⟩
  rw [← hW0] at g0 b38 o0 z0
  have hS : ∀ w', Fr B W0 w' → w'.cell? ⟨w.heap.size, 3, none⟩ = some (.int .i64 (k : Int)) ∧ w'.cell? ⟨L, 2, none⟩ = some (.slice (some ad) nq cq) ∧ w'.cell? (ad.add k) = some (.slice ar q.length cr) := by
    intro w' hf
    have h1 := g0.trans hf
    refine ⟨?_, hLB _ h1, ?_⟩
    · rw [cell_of_row w' _ _ _ _ _ (hf.box b38 (by decide))]; rfl
    · rw [h1.1.cell (by rw [add_block]; exact hadB)]; exact hcq
  have HS := Lib.hid hS
  have gw0 := g0
  have HQ := Lib.hid hsq
  obtain ⟨c1, c2, c3⟩ := hS W0 (Fr.refl _ _)
  clear hS hL hLB hcq hsq hown b38
  go_enter Ybad.func7, Ybad.ntmps7
  go_wp2
  rw [← hW0]
  clear hW0
  go_region_held3 (fun w' => w'.cell? ⟨w.heap.size, 3, none⟩ = some (.int .i64 (k : Int)) ∧ w'.cell? ⟨L, 2, none⟩ = some (.slice (some ad) nq cq))
    (exact ⟨c1, c2⟩) (fail)
  obtain ⟨c1', c2', c3'⟩ := HS.out _ (Fr.refl B W0).drew
  have g1 : Fr B w W0.drew := g0.drew
  have o1 : Own W0.drew B v l := o0
  have z1 : W0.drew.heap.size = w.heap.size + 1 := z0
  have r1 : Fr B W0 W0.drew := (Fr.refl B W0).drew
  clear c1 c2 c3 g0 o0 z0
  generalize W0.drew = W1 at *
  go_wp2
  have zz : B ≤ W1.drew.heap.size := by
    show B ≤ W1.heap.size
    omega
  have o1' : Own W1.drew B v l := o1
  have gw : Fr B w W0 := gw0
  go_region_held3 (fun w' => w'.cell? ⟨w.heap.size, 3, none⟩ = some (.int .i64 (k : Int)) ∧ w'.cell? ⟨L, 2, none⟩ = some (.slice (some ad) nq cq) ∧ w'.cell? (ad.add k) = some (.slice ar q.length cr))
    (exact HS.out _ (by first | assumption | exact r1 | exact r1.drew))
    (first
      | (go_at_call 14; refine (name_any B v l vNm W1.drew o1' zz (by simp [vNm, ByteArray.size]; omega)).mono ?_; rintro e w2 ⟨v2, rfl, o2, f2'⟩; have f2 : Fr B W0 w2 := r1.drew.trans f2'; have z2 := f2'.size; clear f2')
      | (refine step_app_src (by rfl) _ _ (by rfl) B _ _ (by rfl) o2 ar cr q (by rfl) (HQ.out _ (gw.trans f2)) (by simp [vNm]; omega) (by omega) ?_; intro v3 w3 o3 f3'; have f3 : Fr B W0 w3 := f2.trans f3'; have z3 := f3'.size; clear f3'))
  have zw : B ≤ w3.heap.size := by omega
  clear c1' c2' c3'
  go_wp2_with (at_builtin; refine wpList_app_str byt rfl _ _ rfl B _ _ rfl o3 ⟨#[125, 10]⟩ rfl ?_ ?_ ?_)
  · show _ + 2 ≤ _
    simp [vNm]
    omega
  · omega
  intro v4 w4 o4 f4
  have g4 := gw.trans (f3.trans f4)
  clear f4 f3 f2 o3 o2
  go_wp2
  go_ret
  exact ⟨v4, rfl, by simpa [valOf] using o4, g4⟩
end Go.Proofs.YbulkaqysDoor
