/-
  HELPERS OF THE LAW's WALK: '!=' on two equal arrays; a slice that came in; string(..) of a stretch of an own row; bytes.Equal; the law's two short ways.
-/
import Derived.Test.YbulkaqwaFmtParse
import Derived.ChangeKeysEq
import Derived.Laws.StructEq
import Derived.WalkSpells
namespace Go.Proofs.YbulkaqwaFmt
open Go Go.RowKit

theorem items_same (m : List UInt8) (w : World) (d : Nat) : ∀ is : List Nat, (∀ i ∈ is, i < m.length) → (Op.eqItems (d + 1) 5 1 (Lib.byteCells m).toArray (Lib.byteCells m).toArray is).run Ybaf.prog w = .ok true w := by
  intro is
  induction is with
  | nil => intro _; simp [Op.eqItems]
  | cons j is ih =>
    intro h
    have hj := h j (by simp)
    have hp : (part 5 (Lib.byteCells m).toArray (j * 1)).run Ybaf.prog w = .ok (.int .u8 (m[j].toNat : Int)) w := run_part_plain w (by kernel_rfl) (by simp [Lib.byteCells, hj])
    have hq := run_equalIn_int (P := Ybaf.prog) w d 5 .u8 .u8 (m[j].toNat : Int) (m[j].toNat : Int) Ybaf.underlying5
    simp only [Op.eqItems, Sem.run_bind, hp, Result.andThen_ok, hq]
    simp [ih (fun i hi => h i (by simp [hi]))]

theorem arr_same (m : List UInt8) (hm : m.length = 20) (w : World) : (binOp .neq 25 (.agg (Lib.byteCells m).toArray) (.agg (Lib.byteCells m).toArray)).run Ybaf.prog w = .ok (.bool false) w := by
  obtain ⟨i0, hi, _⟩ := info_parts byt.i5
  rw [run_neq_struct, run_equalIn_array w 9999 _ _ Ybaf.underlying25 hi, show Ybaf.prog.cellsOf 5 = 1 from by kernel_rfl, items_same m w 9998 _ (by intro i hi; rw [hm]; simpa using hi)]
  rfl

/-- A slice of bytes that came in, '.slice ao l.length cap': nil, or an address whose first cells hold the bytes l. -/
def Src (w : World) (ao : Option Addr) (cap : Nat) (l : List UInt8) : Prop :=
  (ao = none ∧ cap = 0 ∧ l = []) ∨ ∃ ad, ao = some ad ∧ (0 < l.length → ad.block < w.heap.size) ∧ ∀ j (hj : j < l.length), w.cell? (ad.add j) = some (.int .u8 (l[j].toNat : Int))

theorem add_block (ad : Addr) (j : Nat) : (ad.add j).block = ad.block := by
  unfold Addr.add; split <;> rfl

theorem Src.below {w w' : World} {ao : Option Addr} {cap : Nat} {l : List UInt8} (h : Src w ao cap l) {B : Nat} (hb : Below B w w') (hB : w.heap.size ≤ B) : Src w' ao cap l := by
  rcases h with h | ⟨ad, rfl, h1, h2⟩
  · exact .inl h
  · refine .inr ⟨ad, rfl, fun h => Nat.lt_of_lt_of_le (h1 h) hb.size, fun j hj => ?_⟩
    have := h1 (by omega)
    rw [hb.cell (by rw [add_block]; omega)]
    exact h2 j hj

/-- append(b, x...), x a slice that came in. -/
theorem wpList_app_src {P : Program} {w : World} (bp : Byt P) {ops : Array Oper} {rest : List Oper} {o : Oper} {a : Act} {Q : Exit → Act → World → Prop} (hgd : o.guard = none) (sl x : Operand)
    (ho : o.op = .call { callee := .builtin .append, args := #[sl, x], argTypes := #[22, 22] })
    (B : Nat) (v : Value) (l : List UInt8) (hs : a.eval sl = v) (hown : Own w B v l) (ao : Option Addr) (c : Nat) (m : List UInt8) (hx : a.eval x = .slice ao m.length c) (hsrc : Src w ao c m)
    (hlim : l.length + m.length ≤ 140737488355328) (hB : B ≤ w.heap.size)
    (h : ∀ v' w', Own w' B v' (l ++ m) → Fr B w w' → wpList P ops Q rest (a.put o.dst v') w') : wpList P ops Q (o :: rest) a w := by
  rcases hsrc with ⟨rfl, rfl, rfl⟩ | ⟨ad, rfl, _, hc⟩
  · exact wpList_app_none bp hgd sl x ho B v l hs hown hx (h v w (by simpa using hown) (Fr.refl _ _))
  · exact wpList_app_bytes bp hgd sl x ho B v l hs hown ad _ c m hx rfl hc hlim hB h


theorem Src.convert {P : Program} (bp : Byt P) {w : World} {ao : Option Addr} {cap : Nat} {l : List UInt8} (h : Src w ao cap l) : (convert 22 9 (.slice ao l.length cap)).run P w = .ok (.string ⟨l.toArray⟩) w := by
  rcases h with ⟨rfl, rfl, rfl⟩ | ⟨ad, rfl, _, hc⟩
  · rw [run_convert_bytes_string w 22 9 5 none _ 0 bp.u22 bp.u5 bp.u9]
    simp [Conv.bytesToString]
    rfl
  · exact run_convert_bytes_back w 22 9 5 ad cap l bp.u22 bp.u5 bp.u9 hc

/-- The cells of a stretch of an own row. -/
theorem sub_convert {P : Program} (bp : Byt P) {w : World} {g : Nat} {L : List UInt8} (hc : ∀ j (hj : j < L.length), w.cell? ((⟨g, 0, none⟩ : Addr).add j) = some (.int .u8 (L[j].toNat : Int)))
    (off c : Nat) (l : List UInt8) (hl : (L.drop off).take l.length = l) : (convert 22 9 (.slice (some ⟨g, off, none⟩) l.length c)).run P w = .ok (.string ⟨l.toArray⟩) w := by
  refine run_convert_bytes_back w 22 9 5 ⟨g, off, none⟩ c l bp.u22 bp.u5 bp.u9 fun j hj => ?_
  have hlen := congrArg List.length hl
  rw [List.length_take, List.length_drop] at hlen
  have h1 := hc (off + j) (by omega)
  have e1 : (⟨g, 0, none⟩ : Addr).add (off + j) = ⟨g, off + j, none⟩ := by unfold Addr.add; split <;> simp_all
  have e2 : (⟨g, off, none⟩ : Addr).add j = ⟨g, off + j, none⟩ := by unfold Addr.add; split <;> simp_all
  rw [e1] at h1
  rw [e2, h1]
  congr 3
  have h2 : l[j]? = L[off + j]? := by rw [← hl, List.getElem?_take, if_pos hj, List.getElem?_drop]
  rw [List.getElem?_eq_getElem hj, List.getElem?_eq_getElem (by omega)] at h2
  exact congrArg UInt8.toNat (Option.some.inj h2).symm

set_option maxHeartbeats 1000000 in
theorem equal_conv (v v' : Value) (s : ByteArray) (w : World) (h : (convert 22 9 v).run Ybaf.prog w = .ok (.string s) w) (h' : (convert 22 9 v').run Ybaf.prog w = .ok (.string s) w) :
    Calls Ybaf.prog 7 #[v, v'] w fun e w' => e = .returned (.bool true) ∧ w' = w := by
  go_enter Ybaf.func7, Ybaf.ntmps7
  go_wp2
  go_ret
  exact ⟨rfl, rfl⟩

theorem Ybaf.row23 : (Ybaf.prog.info? 23).map (·.size) = some 20 := by kernel_rfl

set_option maxHeartbeats 1000000 in
theorem law_long (ao : Option Addr) (cap : Nat) (lb : List UInt8) (st : ByteArray) (w : World) (cc : Array Value) (_hsz : cc.size = 20) (hl : (1024 : Int) < lb.length) :
    Calls Ybaf.prog 3 #[.slice ao lb.length cap, .agg cc, .string st] w fun e w' => e = .returned (.bool true) ∧ Below w.heap.size w w' := by
  go_enter Ybaf.func3, Ybaf.ntmps3
  go_wp2
  go_ret
  exact ⟨rfl, (Below.refl _ w).alloc (Nat.le_refl _) _⟩
set_option maxHeartbeats 1000000 in
theorem law_long2 (ao : Option Addr) (cap : Nat) (lb : List UInt8) (st : ByteArray) (w : World) (cc : Array Value) (_hsz : cc.size = 20) (hl : lb.length ≤ 1024) (hl2 : (1024 : Int) < st.size) :
    Calls Ybaf.prog 3 #[.slice ao lb.length cap, .agg cc, .string st] w fun e w' => e = .returned (.bool true) ∧ Below w.heap.size w w' := by
  have hd : decide ((1024 : Int) < (lb.length : Int)) = false := decide_eq_false (by omega)
  go_enter Ybaf.func3, Ybaf.ntmps3
  go_wp2
  go_ret
  exact ⟨rfl, (Below.refl _ w).alloc (Nat.le_refl _) _⟩
end Go.Proofs.YbulkaqwaFmt
