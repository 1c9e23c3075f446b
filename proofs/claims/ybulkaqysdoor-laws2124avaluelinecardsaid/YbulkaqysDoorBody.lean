/-
  A SLICE OF BYTES THAT CAME IN; bytes.Equal; THE WALKS OF jsonwrite.AppendName and of AppendBody where the value is none, or an index within the quoted values.
-/
import Derived.Test.YbulkaqysDoorRows
import Derived.Test.YbulkaqysDoorBase
import Derived.Lib.Hide
import Derived.Deep.RegionHeld3
namespace Go.Proofs.YbulkaqysDoor
open Go Go.RowKit
theorem byt : Byt Ybad.prog := ⟨Ybad.underlying22, Ybad.underlying5, Ybad.underlying9, by kernel_rfl⟩

/-- A slice of bytes that came in, '.slice ao l.length cap': nil, or an address whose first cells hold the bytes l. -/
def Src (w : World) (ao : Option Addr) (cap : Nat) (l : List UInt8) : Prop :=
  (ao = none ∧ cap = 0 ∧ l = []) ∨ ∃ ad, ao = some ad ∧ (0 < l.length → ad.block < w.heap.size) ∧ ∀ j (hj : j < l.length), w.cell? (ad.add j) = some (.int .u8 (l[j].toNat : Int))

theorem add_block (ad : Addr) (j : Nat) : (ad.add j).block = ad.block := by
  unfold Addr.add; split <;> rfl

theorem Src.below {w w' : World} {ao : Option Addr} {cap : Nat} {l : List UInt8} (h : Src w ao cap l) {B : Nat} (hb : Below B w w') (hB : w.heap.size ≤ B) : Src w' ao cap l := by
  rcases h with h | ⟨ad, rfl, h1, h2⟩
  · exact .inl h
  · refine .inr ⟨ad, rfl, fun h => Nat.lt_of_lt_of_le (h1 h) hb.size, fun j hj => ?_⟩
    have := h1 (by omega)
    rw [hb.cell (by rw [add_block]; omega)]
    exact h2 j hj

/-- append(b, x...), x a slice that came in. -/
theorem wpList_app_src {P : Program} {w : World} (bp : Byt P) {ops : Array Oper} {rest : List Oper} {o : Oper} {a : Act} {Q : Exit → Act → World → Prop} (hgd : o.guard = none) (sl x : Operand)
    (ho : o.op = .call { callee := .builtin .append, args := #[sl, x], argTypes := #[22, 22] })
    (B : Nat) (v : Value) (l : List UInt8) (hs : a.eval sl = v) (hown : Own w B v l) (ao : Option Addr) (c : Nat) (m : List UInt8) (hx : a.eval x = .slice ao m.length c) (hsrc : Src w ao c m)
    (hlim : l.length + m.length ≤ 140737488355328) (hB : B ≤ w.heap.size)
    (h : ∀ v' w', Own w' B v' (l ++ m) → Fr B w w' → wpList P ops Q rest (a.put o.dst v') w') : wpList P ops Q (o :: rest) a w := by
  rcases hsrc with ⟨rfl, rfl, rfl⟩ | ⟨ad, rfl, _, hc⟩
  · exact wpList_app_none bp hgd sl x ho B v l hs hown hx (h v w (by simpa using hown) (Fr.refl _ _))
  · exact wpList_app_bytes bp hgd sl x ho B v l hs hown ad _ c m hx rfl hc hlim hB h

theorem Src.asStr {w : World} {ao : Option Addr} {cap : Nat} {l : List UInt8} (h : Src w ao cap l) : (convert 22 9 (.slice ao l.length cap)).run Ybad.prog w = .ok (.string ⟨l.toArray⟩) w := by
  rcases h with ⟨rfl, rfl, rfl⟩ | ⟨ad, rfl, _, hc⟩
  · show (convert 22 9 (.slice none 0 0)).run Ybad.prog w = _
    rw [run_convert_bytes_string w 22 9 5 none 0 0 byt.u22 byt.u5 byt.u9]
    simp [Conv.bytesToString]
    rfl
  · exact run_convert_bytes_back w 22 9 5 ad cap l byt.u22 byt.u5 byt.u9 hc

set_option maxHeartbeats 1000000 in
theorem equal_conv (v v' : Value) (s : ByteArray) (w : World) (c1 : (convert 22 9 v).run Ybad.prog w = .ok (.string s) w) (c2 : (convert 22 9 v').run Ybad.prog w = .ok (.string s) w) :
    Calls Ybad.prog 8 #[v, v'] w fun e w' => e = .returned (.bool true) ∧ w' = w := by
  go_enter Ybad.func8, Ybad.ntmps8
  go_wp2
  go_ret
  exact ⟨rfl, rfl⟩

set_option maxHeartbeats 1000000 in
theorem name_any (B : Nat) (v : Value) (l : List UInt8) (key : ByteArray) (w : World) (hown : Own w B v l) (hB : B ≤ w.heap.size) (hlim : l.length + key.size + 4 ≤ 140737488355328) :
    Calls Ybad.prog 14 #[v, .string key] w fun e w' => ∃ v', e = .returned v' ∧ Own w' B v' (l ++ [44, 34] ++ key.data.toList ++ [34, 58]) ∧ Fr B w w' := by
  have hk : key.data.toList.length = key.size := by rw [Array.length_toList]; rfl
  go_enter Ybad.func14, Ybad.ntmps14
  go_wp2_with (at_builtin; refine wpList_app_str byt rfl _ _ rfl B _ _ rfl hown ⟨#[44, 34]⟩ rfl ?_ ?_ ?_)
  · show l.length + 2 ≤ _
    omega
  · omega
  intro v1 w1 o1 f1
  have z1 := f1.size
  go_wp2_with (at_builtin; refine wpList_app_str byt rfl _ _ rfl B _ _ rfl o1 key rfl ?_ ?_ ?_)
  · simp; omega
  · omega
  intro v2 w2 o2 f2
  have g2 := f1.trans f2
  have z2 := g2.size
  clear f2 o1 f1
  go_wp2_with (at_builtin; refine wpList_app_str byt rfl _ _ rfl B _ _ rfl o2 ⟨#[34, 58]⟩ rfl ?_ ?_ ?_)
  · show _ + 2 ≤ _
    simp; omega
  · omega
  intro v3 w3 o3 f3
  have g3 := g2.trans f3
  clear f3 o2
  go_wp2
  go_ret
  exact ⟨v3, rfl, by simpa using o3, g3⟩

set_option maxHeartbeats 2000000 in
/-- AppendBody at none. -/
theorem body_none (B : Nat) (v : Value) (l : List UInt8) (L nq cq : Nat) (qo : Option Addr) (fr to pa sg : Value) (w : World) (hown : Own w B v l) (hB : B ≤ w.heap.size) (hlim : l.length + 4 ≤ 140737488355328)
    (hL : w.cell? ⟨L, 2, none⟩ = some (.slice qo nq cq)) :
    Calls Ybad.prog 7 #[.pointer (some ⟨L, 0, none⟩), v, .agg #[fr, to, pa, .int .i64 (-1), sg]] w fun e w' => ∃ v', e = .returned v' ∧ Own w' B v' (l ++ [125, 10]) ∧ Fr B w w' := by
  have hlt : L < w.heap.size := World.block_lt_of_cell? w _ hL
  have c38 : (w.alloc (.cells #[fr, to, pa, .int .i64 (-1), sg] 38)).cell? ⟨w.heap.size, 3, none⟩ = some (.int .i64 (-1)) := by simp
  have c35 : (w.alloc (.cells #[fr, to, pa, .int .i64 (-1), sg] 38)).cell? ⟨L, 2, none⟩ = some (.slice qo nq cq) := by
    rw [World.cell?_alloc_some _ _ _ (by rw [hL]; rfl)]
    exact hL
  have g0 : Fr B w (w.alloc (.cells #[fr, to, pa, .int .i64 (-1), sg] 38)) := (Fr.refl B w).alloc hB _
  have o0 := hown.alloc (.cells #[fr, to, pa, .int .i64 (-1), sg] 38)
  have z0 : (w.alloc (.cells #[fr, to, pa, .int .i64 (-1), sg] 38)).heap.size = w.heap.size + 1 := by simp
  have hge : decide ((-1 : Int) ≥ (nq : Int)) = false := decide_eq_false (by omega)
  have hge' : decide ((nq : Int) ≤ -1) = false := decide_eq_false (by omega)
  go_enter Ybad.func7, Ybad.ntmps7
  go_wp2
  generalize w.alloc (.cells #[fr, to, pa, .int .i64 (-1), sg] 38) = W at *
  go_region_held3 (fun w' => w'.cell? ⟨w.heap.size, 3, none⟩ = some (.int .i64 (-1)) ∧ w'.cell? ⟨L, 2, none⟩ = some (.slice qo nq cq))
    (exact ⟨c38, c35⟩) (fail)
  have c38' : W.drew.cell? ⟨w.heap.size, 3, none⟩ = some (.int .i64 (-1)) := c38
  have g0' : Fr B w W.drew := g0.drew
  have o0' : Own W.drew B v l := o0
  have z0' : W.drew.heap.size = w.heap.size + 1 := z0
  clear c38 c35 g0 o0 z0
  generalize W.drew = W' at *
  go_wp2_with (at_builtin; refine wpList_app_str byt rfl _ _ rfl B _ _ rfl o0' ⟨#[125, 10]⟩ rfl ?_ ?_ ?_)
  · show l.length + 2 ≤ _
    omega
  · omega
  intro v1 w1 o1 f1
  have g1 := g0'.trans f1
  go_wp2
  go_ret
  exact ⟨v1, rfl, o1, g1⟩
end Go.Proofs.YbulkaqysDoor
