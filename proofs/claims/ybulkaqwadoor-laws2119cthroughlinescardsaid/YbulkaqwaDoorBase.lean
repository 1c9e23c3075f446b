/-
  GENERAL LAWS, over any program whose type 5 is uint8, 9 is string and 22 is a slice of uint8: a slice of bytes that the call owns, as a list of bytes; append in that form; the frame of such calls.
-/
import Derived.WalkKit
import Derived.Lib.AppendStr
import Derived.Lib.OthersKept
import Derived.Lib.OwnKind
import Derived.Lib.HexFns
import Derived.Laws.AppendOwnNone
import Derived.Laws.IdiomStrings
import Derived.Deep.OwnRows
import Derived.OwnWalk
namespace Go.Proofs.YbulkaqwaDoor
open Go Go.RowKit

/-- What is asked of a program's table of types. -/
structure Byt (P : Program) : Prop where
  u22 : P.underlying 22 = some (.slice 5)
  u5 : P.underlying 5 = some (.int .u8)
  u9 : P.underlying 9 = some .string
  i5 : (P.info? 5).map (fun i => (i.zero, i.size, i.bytes)) = some (some (.int .u8 0), 1, 1)

/-- The slice value v is the call's own (its row lies from block B on, or it is nil) and holds the bytes l. -/
def Own (w : World) (B : Nat) (v : Value) (l : List UInt8) : Prop := w.ownsRow B 5 1 v l.length (Lib.byteCells l)

/-- Below block B nothing has turned; nor has any block that is no row of bytes. -/
def Fr (B : Nat) (w w' : World) : Prop := Below B w w' ∧ Lib.OthersKept 5 none w w'

theorem Fr.refl (B : Nat) (w : World) : Fr B w w := ⟨Below.refl _ _, Lib.OthersKept.refl _ _ _⟩
theorem Fr.trans {B : Nat} {a b c : World} (h : Fr B a b) (k : Fr B b c) : Fr B a c := ⟨h.1.trans k.1, h.2.trans k.2⟩
theorem Fr.mono {B B' : Nat} {a b : World} (h : Fr B a b) (hB : B' ≤ B) : Fr B' a b := ⟨h.1.mono hB, h.2⟩
theorem Fr.alloc {B : Nat} {a w : World} (h : Fr B a w) (hB : B ≤ w.heap.size) (o : Obj) : Fr B a (w.alloc o) := ⟨h.1.alloc hB o, h.2.alloc o⟩
theorem Fr.drew {B : Nat} {a w : World} (h : Fr B a w) : Fr B a w.drew := ⟨h.1.drew, h.2.drew⟩
theorem Fr.size {B : Nat} {a w : World} (h : Fr B a w) : a.heap.size ≤ w.heap.size := h.1.size
theorem Fr.grown {B : Nat} {a w w' : World} {v : Value} {l : List UInt8} (h : Fr B a w) (hown : Own w B v l) (hg : w.grownBy w' v.ownBlock) (hB : B ≤ w.heap.size) : Fr B a w' :=
  ⟨h.1.grown hg hB (fun k hk => (World.ownsRow.lt hown k hk).1), h.2.grown hg (Lib.ownsRow_kind hown)⟩
theorem Fr.grown0 {B : Nat} {a w w' : World} (h : Fr B a w) (hg : w.grownBy w' none) (hB : B ≤ w.heap.size) : Fr B a w' :=
  ⟨h.1.grown hg hB (fun k hk => by cases hk), h.2.grown hg (fun k hk => by cases hk)⟩
/-- A block that is no row of bytes stands. -/
theorem Fr.box {B : Nat} {a w : World} (h : Fr B a w) {k : Nat} {c : Array Value} {t : TypeId} {fz : Nat × Nat} (hk : a.heap[k]? = some (.cells c t fz)) (ht : t ≠ 5) : w.heap[k]? = some (.cells c t fz) :=
  h.2 k _ hk (by simp) (fun c' fz' e => by cases e; exact ht rfl)

theorem Own.alloc {w : World} {B : Nat} {v : Value} {l : List UInt8} (h : Own w B v l) (o : Obj) : Own (w.alloc o) B v l := World.ownsRow.alloc h o
theorem Own.drew {w : World} {B : Nat} {v : Value} {l : List UInt8} (h : Own w B v l) : Own w.drew B v l := h
theorem Own.nil (w : World) (B : Nat) : Own w B (.slice none 0 0) [] := World.ownsRow_nil w B 5 1
/-- An own row lies below a later base: it stands. -/
theorem Own.below {w w' : World} {B B' : Nat} {v : Value} {l : List UInt8} (h : Own w B v l) (hb : Below B' w w') (hB : w.heap.size ≤ B') : Own w' B v l := by
  refine ⟨h.1, ?_⟩
  rcases h.2 with hn | ⟨g, cap, cur, rfl, h1, hg, rest⟩
  · exact .inl hn
  · have hlt : g < w.heap.size := (Array.getElem?_eq_some_iff.1 hg).1
    exact .inr ⟨g, cap, cur, rfl, h1, by rw [hb.block g (by omega)]; exact hg, rest⟩
theorem Own.mono {w : World} {B B' : Nat} {v : Value} {l : List UInt8} (h : Own w B v l) (hB : B' ≤ B) : Own w B' v l := by
  refine ⟨h.1, ?_⟩
  rcases h.2 with hn | ⟨g, cap, cur, rfl, h1, rest⟩
  · exact .inl hn
  · exact .inr ⟨g, cap, cur, rfl, by omega, rest⟩

theorem byteCells_length (l : List UInt8) : (Lib.byteCells l).length = l.length := by simp [Lib.byteCells]
theorem byteCells_append (l m : List UInt8) : Lib.byteCells (l ++ m) = Lib.byteCells l ++ Lib.byteCells m := by simp [Lib.byteCells]
theorem byteCells_oneCell (l : List UInt8) : ∀ u ∈ Lib.byteCells l, u.oneCell' = true := by
  intro u hu
  simp only [Lib.byteCells, List.mem_map] at hu
  obtain ⟨b, _, rfl⟩ := hu
  rfl
theorem byteCells_getElem? (l : List UInt8) (j : Nat) (u : Value) (h : (Lib.byteCells l)[j]? = some u) : ∃ hj : j < l.length, u = .int .u8 (l[j].toNat : Int) := by
  simp only [Lib.byteCells, List.getElem?_map, Option.map_eq_some_iff] at h
  obtain ⟨b, hb, rfl⟩ := h
  obtain ⟨hj, e⟩ := List.getElem?_eq_some_iff.1 hb
  exact ⟨hj, by rw [e]⟩
theorem byteCells_strCells (s : ByteArray) : Lib.strCells s = Lib.byteCells s.data.toList := rfl

theorem Own.form {w : World} {B : Nat} {v : Value} {l : List UInt8} (h : Own w B v l) :
    (v = .slice none 0 0 ∧ l = []) ∨ ∃ g cap, v = .slice (some ⟨g, 0, none⟩) l.length cap ∧ l.length ≤ cap ∧ cap ≤ maxLen ∧ B ≤ g ∧ g < w.heap.size ∧
      ∀ j (hj : j < l.length), w.cell? ((⟨g, 0, none⟩ : Addr).add j) = some (.int .u8 (l[j].toNat : Int)) := by
  rcases h.2 with ⟨rfl, hn⟩ | ⟨g, cap, cur, rfl, h1, hg, h2, h3, _, _⟩
  · exact .inl ⟨rfl, List.eq_nil_of_length_eq_zero hn⟩
  · refine .inr ⟨g, cap, rfl, h2, h3, h1, (Array.getElem?_eq_some_iff.1 hg).1, fun j hj => ?_⟩
    exact World.ownsRow.cells h (g := g) rfl j _ (by simp [Lib.byteCells, hj])

section
variable {P : Program} {w : World}

/-- append(b, s...), s a string. -/
theorem wpList_app_str (bp : Byt P) {ops : Array Oper} {rest : List Oper} {o : Oper} {a : Act} {Q : Exit → Act → World → Prop} (hgd : o.guard = none) (sl x : Operand)
    (ho : o.op = .call { callee := .builtin .append, args := #[sl, x], argTypes := #[22, 9] })
    (B : Nat) (v : Value) (l : List UInt8) (hs : a.eval sl = v) (hown : Own w B v l) (s : ByteArray) (hx : a.eval x = .string s)
    (hlim : l.length + s.size ≤ 140737488355328) (hB : B ≤ w.heap.size)
    (h : ∀ v' w', Own w' B v' (l ++ s.data.toList) → Fr B w w' → wpList P ops Q rest (a.put o.dst v') w') : wpList P ops Q (o :: rest) a w := by
  obtain ⟨i0, hi, hz0, hz1, hz2⟩ := info_parts bp.i5
  refine Lib.wpList_append_own_string w hgd sl x 22 9 ho B 5 i0 bp.u22 bp.u9 hi hz0 hz1 hz2 v _ _ hs hown s hx (by unfold maxLen; omega) hlim hB ?_
  intro v' w' h1 h2 _
  refine h v' w' ?_ ((Fr.refl B w).grown hown h2 hB)
  show w'.ownsRow B 5 1 v' (l ++ s.data.toList).length (Lib.byteCells (l ++ s.data.toList))
  rw [byteCells_append, List.length_append, Array.length_toList]
  exact h1

/-- append(b, x...), x a slice whose cells hold the bytes m. -/
theorem wpList_app_bytes (bp : Byt P) {ops : Array Oper} {rest : List Oper} {o : Oper} {a : Act} {Q : Exit → Act → World → Prop} (hgd : o.guard = none) (sl x : Operand)
    (ho : o.op = .call { callee := .builtin .append, args := #[sl, x], argTypes := #[22, 22] })
    (B : Nat) (v : Value) (l : List UInt8) (hs : a.eval sl = v) (hown : Own w B v l) (ad : Addr) (n c : Nat) (m : List UInt8) (hx : a.eval x = .slice (some ad) n c) (hn : n = m.length)
    (hc : ∀ j (hj : j < m.length), w.cell? (ad.add j) = some (.int .u8 (m[j].toNat : Int)))
    (hlim : l.length + m.length ≤ 140737488355328) (hB : B ≤ w.heap.size)
    (h : ∀ v' w', Own w' B v' (l ++ m) → Fr B w w' → wpList P ops Q rest (a.put o.dst v') w') : wpList P ops Q (o :: rest) a w := by
  obtain ⟨i0, hi, hz0, hz1, hz2⟩ := info_parts bp.i5
  subst hn
  refine wpList_append_own w hgd sl x 22 ho B 5 i0 (.int .u8 0) 1 1 bp.u22 hi hz0 hz1 hz2 rfl (by decide) v _ _ hs hown ad m.length c (Lib.byteCells m) hx (by simp [byteCells_length]) ?_ (byteCells_oneCell m) (by unfold maxLen; omega) (by omega) hB ?_
  · intro j u hu
    obtain ⟨hj, rfl⟩ := byteCells_getElem? m j u hu
    exact hc j hj
  · intro v' w' h1 h2 _
    refine h v' w' ?_ ((Fr.refl B w).grown hown h2 hB)
    show w'.ownsRow B 5 1 v' (l ++ m).length (Lib.byteCells (l ++ m))
    rw [byteCells_append, List.length_append]
    exact h1

/-- append(b, c), c one byte: the translation lays c in a block of its own first. -/
theorem wpList_app_byte (bp : Byt P) {ops : Array Oper} {rest : List Oper} {o : Oper} {a : Act} {Q : Exit → Act → World → Prop} (hgd : o.guard = none) (sl x : Operand)
    (ho : o.op = .call { callee := .builtin .append, args := #[sl, x], argTypes := #[22, 22] })
    (B : Nat) (v : Value) (l : List UInt8) (hs : a.eval sl = v) (hown : Own w B v l) (g cp : Nat) (c : UInt8) (hx : a.eval x = .slice (some ⟨g, 0, none⟩) 1 cp)
    (hc : w.cell? ⟨g, 0, none⟩ = some (.int .u8 (c.toNat : Int)))
    (hlim : l.length + 1 ≤ 140737488355328) (hB : B ≤ w.heap.size)
    (h : ∀ v' w', Own w' B v' (l ++ [c]) → Fr B w w' → wpList P ops Q rest (a.put o.dst v') w') : wpList P ops Q (o :: rest) a w := by
  refine wpList_app_bytes bp hgd sl x ho B v l hs hown ⟨g, 0, none⟩ 1 cp [c] hx rfl ?_ hlim hB h
  intro j hj
  match j, hj with
  | 0, _ => simpa [Addr.add] using hc

/-- append(b, x...), x nil. -/
theorem wpList_app_none (bp : Byt P) {ops : Array Oper} {rest : List Oper} {o : Oper} {a : Act} {Q : Exit → Act → World → Prop} (hgd : o.guard = none) (sl x : Operand)
    (ho : o.op = .call { callee := .builtin .append, args := #[sl, x], argTypes := #[22, 22] })
    (B : Nat) (v : Value) (l : List UInt8) (hs : a.eval sl = v) (hown : Own w B v l) (hx : a.eval x = .slice none 0 0)
    (h : wpList P ops Q rest (a.put o.dst v) w) : wpList P ops Q (o :: rest) a w := by
  obtain ⟨i0, hi, hz0, hz1, hz2⟩ := info_parts bp.i5
  exact wpList_append_own_none hgd sl x 22 ho B 5 i0 1 bp.u22 hi v _ _ hs hown hx h

/-- string(b) of an own row. -/
theorem Own.convert (bp : Byt P) {B : Nat} {v : Value} {l : List UInt8} (h : Own w B v l) : (convert 22 9 v).run P w = .ok (.string ⟨l.toArray⟩) w := by
  rcases h.form with ⟨rfl, rfl⟩ | ⟨g, cap, rfl, _, _, _, _, hc⟩
  · rw [run_convert_bytes_string w 22 9 5 none 0 0 bp.u22 bp.u5 bp.u9]
    simp [Conv.bytesToString]
    rfl
  · exact run_convert_bytes_back w 22 9 5 ⟨g, 0, none⟩ cap l bp.u22 bp.u5 bp.u9 hc
end
end Go.Proofs.YbulkaqwaDoor
