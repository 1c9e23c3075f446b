/-
  THE WALK OF zzs2119aexpect: what the law expects, as a list of bytes. Four loops.
-/
import Derived.Test.YbulkaqwaParts
namespace Go.Proofs.Ybulkaqwa
open Go Go.RowKit

/-- A slice of bytes that came in, '.slice ao l.length cap': nil, or an address whose first cells hold the bytes l. -/
def Src (w : World) (ao : Option Addr) (cap : Nat) (l : List UInt8) : Prop :=
  (ao = none ∧ cap = 0 ∧ l = []) ∨ ∃ ad, ao = some ad ∧ (0 < l.length → ad.block < w.heap.size) ∧ ∀ j (hj : j < l.length), w.cell? (ad.add j) = some (.int .u8 (l[j].toNat : Int))

theorem add_block (ad : Addr) (j : Nat) : (ad.add j).block = ad.block := by
  unfold Addr.add; split <;> rfl

theorem Src.below {w w' : World} {ao : Option Addr} {cap : Nat} {l : List UInt8} (h : Src w ao cap l) {B : Nat} (hb : Below B w w') (hB : w.heap.size ≤ B) : Src w' ao cap l := by
  rcases h with h | ⟨ad, rfl, h1, h2⟩
  · exact .inl h
  · refine .inr ⟨ad, rfl, fun h => Nat.lt_of_lt_of_le (h1 h) hb.size, fun j hj => ?_⟩
    have := h1 (by omega)
    rw [hb.cell (by rw [add_block]; omega)]
    exact h2 j hj

/-- append(b, x...), x a slice that came in. -/
theorem wpList_app_src {P : Program} {w : World} (bp : Byt P) {ops : Array Oper} {rest : List Oper} {o : Oper} {a : Act} {Q : Exit → Act → World → Prop} (hgd : o.guard = none) (sl x : Operand)
    (ho : o.op = .call { callee := .builtin .append, args := #[sl, x], argTypes := #[22, 22] })
    (B : Nat) (v : Value) (l : List UInt8) (hs : a.eval sl = v) (hown : Own w B v l) (ao : Option Addr) (c : Nat) (m : List UInt8) (hx : a.eval x = .slice ao m.length c) (hsrc : Src w ao c m)
    (hlim : l.length + m.length ≤ 140737488355328) (hB : B ≤ w.heap.size)
    (h : ∀ v' w', Own w' B v' (l ++ m) → Fr B w w' → wpList P ops Q rest (a.put o.dst v') w') : wpList P ops Q (o :: rest) a w := by
  rcases hsrc with ⟨rfl, rfl, rfl⟩ | ⟨ad, rfl, _, hc⟩
  · exact wpList_app_none bp hgd sl x ho B v l hs hown hx (h v w (by simpa using hown) (Fr.refl _ _))
  · exact wpList_app_bytes bp hgd sl x ho B v l hs hown ad _ c m hx rfl hc hlim hB h

theorem take_snoc (s : ByteArray) (k : Nat) (h : k < s.size) : s.data.toList.take (k + 1) = s.data.toList.take k ++ [s[k]] := by
  rw [List.take_succ_eq_append_getElem (by simpa using h)]; rfl
theorem take_length (s : ByteArray) (k : Nat) (h : k ≤ s.size) : (s.data.toList.take k).length = k := by
  rw [List.length_take, Array.length_toList]; exact Nat.min_eq_left h
theorem take_all (s : ByteArray) : s.data.toList.take s.size = s.data.toList := List.take_of_length_le (by rw [Array.length_toList]; exact Nat.le_refl _)

theorem cell_new (w : World) (V : Value) : (w.alloc (.cells #[V] 5)).cell? ⟨w.heap.size, 0, none⟩ = some V := by simp
theorem hi_dig (x : Int) (b d : UInt8) (hb : x = (b.toNat : Int)) (hd : d = Lib.Hx.digit (b.toNat / 16)) (h : (x / 16).toNat < Lib.Hx.tab.size) : some (Value.int .u8 ((Lib.Hx.tab[(x / 16).toNat]'h).toNat : Int)) = some (Value.int .u8 (d.toNat : Int)) := by
  have hlt := b.toNat_lt
  rw [Lib.Hx.dig_hi x (by omega) (by omega) h, Lib.Hx.byte_toNat x (by omega) (by omega), hd, hb, Int.toNat_natCast]
theorem lo_dig (x : Int) (b d : UInt8) (hb : x = (b.toNat : Int)) (hd : d = Lib.Hx.digit (b.toNat % 16)) (h : (x % 16).toNat < Lib.Hx.tab.size) : some (Value.int .u8 ((Lib.Hx.tab[(x % 16).toNat]'h).toNat : Int)) = some (Value.int .u8 (d.toNat : Int)) := by
  have hlt := b.toNat_lt
  rw [Lib.Hx.dig_lo x (by omega) (by omega) h, Lib.Hx.byte_toNat x (by omega) (by omega), hd, hb, Int.toNat_natCast]
theorem encode_snoc (m : List UInt8) (k : Nat) (h : k < m.length) : Lib.Hx.encode (m.take (k + 1)) = Lib.Hx.encode (m.take k) ++ [Lib.Hx.digit (m[k].toNat / 16)] ++ [Lib.Hx.digit (m[k].toNat % 16)] := by
  rw [List.take_succ_eq_append_getElem h]
  unfold Lib.Hx.encode
  rw [List.flatMap_append, List.append_assoc]
  rfl

def pre : ByteArray := ⟨#[102, 111, 114, 101, 99, 97, 115, 116, 32, 48, 120]⟩
def mid : ByteArray := ⟨#[32, 115, 116, 97, 116, 101, 61]⟩

set_option maxHeartbeats 2000000 in
theorem expect_any (ao : Option Addr) (cap : Nat) (lb m : List UInt8) (st : ByteArray) (w : World) (cc : Array Value) (hm : m.length = 20) (hlb : lb.length ≤ 1024) (hst : st.size ≤ 1024)
    (hcc : cc = (Lib.byteCells m).toArray) (hsrc : Src w ao cap lb) :
    Calls Yba.prog 5 #[.slice ao lb.length cap, .agg cc, .string st] w fun e w' => ∃ v', e = .returned v' ∧
      Own w' (w.heap.size + 1) v' (lb ++ pre.data.toList ++ Lib.Hx.encode m ++ mid.data.toList ++ st.data.toList) ∧ Below w.heap.size w w' := by
  have hsz : cc.size = 20 := by rw [hcc]; simp [byteCells_length, hm]
  obtain ⟨i0, hi, hz0, hz1, hz2⟩ := info_parts byt.i5
  have HC := Lib.hid hcc
  clear hcc
  go_enter Yba.func5, Yba.ntmps5
  go_wp2_with (at_make; refine wpList_make_own _ rfl _ _ 22 rfl (w.heap.size + 1) 5 i0 (.int .u8 0) 1 Yba.underlying22 hi hz0 hz1 _ _ _ (lb.length + 64 + st.size) rfl rfl ?_ ?_ ?_ ?_ ?_)
  · omega
  · rw [hz2]; omega
  · unfold maxLen; omega
  · simp
  intro w1 o1 g1
  have o1' : Own w1 (w.heap.size + 1) (.slice (some ⟨w.heap.size + 1, 0, none⟩) 0 (lb.length + 64 + st.size)) [] := by simpa [Own, Lib.byteCells] using o1
  have f1 : Fr (w.heap.size + 1) (w.alloc (.cells cc 25)) w1 := (Fr.refl _ _).grown0 g1 (by simp)
  have z1 : w.heap.size + 1 ≤ w1.heap.size := by have := f1.size; simpa using this
  have s1 : Src w1 ao cap lb := hsrc.below (B := w.heap.size) (((Below.refl _ w).alloc (Nat.le_refl _) _).trans (f1.1.mono (by omega))) (Nat.le_refl _)
  clear o1 g1
  go_wp2_with (at_builtin; refine wpList_app_src byt rfl _ _ rfl (w.heap.size + 1) _ _ rfl o1' _ _ _ rfl s1 ?_ z1 ?_)
  · simp; omega
  intro v2 w2 o2 f2
  have g2 := f1.trans f2
  clear o1' f1 f2 z1 s1
  go_wp2
  obtain ⟨p, hp⟩ : ∃ p : ByteArray, p = ⟨#[102, 111, 114, 101, 99, 97, 115, 116, 32, 48, 120]⟩ := ⟨_, rfl⟩
  have hps : p.size = 11 := by rw [hp]; rfl
  rw [← hp]
  have HP := Lib.hid hp
  have HPS := Lib.hid hps
  have hpl : p.data.toList.length = 11 := by rw [Array.length_toList]; exact hps
  have HPL := Lib.hid hpl
  clear hpl
  clear hp
  have hps0 : p.size ≤ 11 := by omega
  clear hps
  go_loopw [7, 9] (fun v i wr => ∃ k : Nat, k ≤ p.size ∧ i = .int .i64 k ∧ Own wr (w.heap.size + 1) v (lb ++ p.data.toList.take k) ∧ Fr (w.heap.size + 1) (w.alloc (.cells cc 25)) wr) (fun _ i _ => p.size - (intOf i).toNat)
  case atStart => exact ⟨0, by omega, rfl, by simpa using o2, g2⟩
  case round =>
    obtain ⟨k, hk, rfl, ho, hf⟩ := hrel
    clear o2 g2
    have zr : w.heap.size + 1 ≤ wr.heap.size := by have := hf.size; simpa using this
    have hl := take_length p k hk
    by_cases hlt : k < p.size
    · go_wp2_with (at_builtin; refine wpList_app_byte byt rfl _ _ rfl (w.heap.size + 1) _ _ rfl (ho.alloc _) wr.heap.size 1 p[k] rfl ?_ ?_ ?_ ?_)
      · simp
      · simp [hl]; omega
      · simp; omega
      intro v3 w3 o3 f3
      have g3 : Fr (w.heap.size + 1) (w.alloc (.cells cc 25)) w3 := (hf.alloc zr _).trans f3
      have o3' : Own w3 (w.heap.size + 1) v3 (lb ++ p.data.toList.take (k + 1)) := by rw [take_snoc p k hlt]; exact o3
      clear f3 o3 ho hf
      go_wp2
      go_roundw
      case rel => exact ⟨k + 1, by omega, by go_num, o3', g3⟩
      case measure => simp [intOf]; omega
    · have hkk : k = p.size := by omega
      subst hkk
      rw [take_all] at ho
      clear hl hk
      go_wp2
      go_loopw [7, 10] (fun v i wr => ∃ k : Nat, k ≤ 20 ∧ i = .int .i64 k ∧ Own wr (w.heap.size + 1) v (lb ++ p.data.toList ++ Lib.Hx.encode (m.take k)) ∧ Fr (w.heap.size + 1) (w.alloc (.cells cc 25)) wr) (fun _ i _ => 20 - (intOf i).toNat)
      case atStart => exact ⟨0, by omega, rfl, by simpa [Lib.Hx.encode] using ho, hf⟩
      case round =>
        obtain ⟨k, hk, rfl, ho, hf⟩ := hrel
        have zr : w.heap.size + 1 ≤ wr.heap.size := by have := hf.size; simpa using this
        by_cases hlt : k < 20
        · obtain ⟨x, hx⟩ : ∃ x : Int, x = (m[k].toNat : Int) := ⟨_, rfl⟩
          have hcell : ∀ (wx : World), Fr (w.heap.size + 1) (w.alloc (.cells cc 25)) wx → wx.cell? ⟨w.heap.size, k, none⟩ = some (.int .u8 x) := by
            intro wx hfx
            rw [cell_of_row wx w.heap.size k cc 25 (0, 0) (hfx.box (heap_alloc_new w (.cells cc 25)) (by decide)), HC.out, hx]
            simp [Lib.byteCells, hm, hlt]
          have hc1 := hcell wr hf
          have hx0 : 0 ≤ x := by omega
          have hx1 : x < 256 := by have := m[k].toNat_lt; omega
          have HX := Lib.hid hx
          have HCE := Lib.hid hcell
          clear hx hcell
          obtain ⟨d1, hd1⟩ : ∃ d : UInt8, d = Lib.Hx.digit (m[k].toNat / 16) := ⟨_, rfl⟩
          obtain ⟨d2, hd2⟩ : ∃ d : UInt8, d = Lib.Hx.digit (m[k].toNat % 16) := ⟨_, rfl⟩
          have HD1 := Lib.hid hd1
          have HD2 := Lib.hid hd2
          have HEN := Lib.hid (encode_snoc m k (by omega))
          have hel := Lib.Hx.encode_length (m.take k)
          have helk : (m.take k).length ≤ 20 := by rw [List.length_take]; omega
          clear hd1 hd2
          go_wp2_with (at_builtin; refine wpList_app_byte byt rfl _ _ rfl (w.heap.size + 1) _ _ rfl (ho.alloc _) wr.heap.size 1 d1 rfl ?_ ?_ ?_ ?_)
          · exact (cell_new _ _).trans (hi_dig x m[k] d1 HX.out HD1.out _)
          · simp only [List.length_append, hel, HPL.out]; omega
          · simp; omega
          intro v3 w3 o3 f3
          have g3 : Fr (w.heap.size + 1) (w.alloc (.cells cc 25)) w3 := (hf.alloc zr _).trans f3
          have z3 : w.heap.size + 1 ≤ w3.heap.size := by have := g3.size; simpa using this
          have hc3 := HCE.out w3 g3
          clear f3 ho hf hc1
          go_wp2_with (at_builtin; refine wpList_app_byte byt rfl _ _ rfl (w.heap.size + 1) _ _ rfl (o3.alloc _) w3.heap.size 1 d2 rfl ?_ ?_ ?_ ?_)
          · exact (cell_new _ _).trans (lo_dig x m[k] d2 HX.out HD2.out _)
          · simp only [List.length_append, List.length_cons, List.length_nil, hel, HPL.out]; omega
          · simp; omega
          intro v4 w4 o4 f4
          have g4 : Fr (w.heap.size + 1) (w.alloc (.cells cc 25)) w4 := (g3.alloc z3 _).trans f4
          have o4' : Own w4 (w.heap.size + 1) v4 (lb ++ p.data.toList ++ Lib.Hx.encode (m.take (k + 1))) := by
            rw [HEN.out, ← HD1.out, ← HD2.out]
            simpa using o4
          clear f4 o4 o3 g3 hc3 hel
          go_wp2
          go_roundw
          case rel => exact ⟨k + 1, by omega, by go_num, o4', g4⟩
          case measure => simp [intOf]; omega
        · have hkk : k = 20 := by omega
          subst hkk
          rw [List.take_of_length_le (by omega)] at ho
          go_wp2
          obtain ⟨q, hq⟩ : ∃ q : ByteArray, q = ⟨#[32, 115, 116, 97, 116, 101, 61]⟩ := ⟨_, rfl⟩
          have hqs : q.size ≤ 7 := by rw [hq]; exact Nat.le_refl 7
          have hel := Lib.Hx.encode_length m
          rw [hm] at hel
          rw [← hq]
          have HQ := Lib.hid hq
          have HEL := Lib.hid hel
          clear hq hel
          go_loopw [7, 12] (fun v i wr => ∃ k : Nat, k ≤ q.size ∧ i = .int .i64 k ∧ Own wr (w.heap.size + 1) v (lb ++ p.data.toList ++ Lib.Hx.encode m ++ q.data.toList.take k) ∧ Fr (w.heap.size + 1) (w.alloc (.cells cc 25)) wr) (fun _ i _ => q.size - (intOf i).toNat)
          case atStart => exact ⟨0, by omega, rfl, by simpa using ho, hf⟩
          case round =>
            obtain ⟨k, hk, rfl, ho, hf⟩ := hrel
            have zr : w.heap.size + 1 ≤ wr.heap.size := by have := hf.size; simpa using this
            have hl := take_length q k hk
            by_cases hlt : k < q.size
            · go_wp2_with (at_builtin; refine wpList_app_byte byt rfl _ _ rfl (w.heap.size + 1) _ _ rfl (ho.alloc _) wr.heap.size 1 q[k] rfl ?_ ?_ ?_ ?_)
              · simp
              · simp only [List.length_append, hl, HPL.out, HEL.out]; omega
              · simp; omega
              intro v3 w3 o3 f3
              have g3 : Fr (w.heap.size + 1) (w.alloc (.cells cc 25)) w3 := (hf.alloc zr _).trans f3
              have o3' : Own w3 (w.heap.size + 1) v3 (lb ++ p.data.toList ++ Lib.Hx.encode m ++ q.data.toList.take (k + 1)) := by rw [take_snoc q k hlt]; simpa only [List.append_assoc] using o3
              clear f3 o3 ho hf
              go_wp2
              go_roundw
              case rel => first | exact ⟨k + 1, by omega, by go_num, o3', g3⟩ | ((repeat apply Exists.intro); exact ⟨⟨k + 1, by omega, by go_num, o3', g3⟩, rfl⟩)
              case measure => simp [intOf]; omega
            · have hkk : k = q.size := by omega
              subst hkk
              rw [take_all] at ho
              clear hl hk
              go_wp2
              go_loopw [7, 13] (fun v i wr => ∃ k : Nat, k ≤ st.size ∧ i = .int .i64 k ∧ Own wr (w.heap.size + 1) v (lb ++ p.data.toList ++ Lib.Hx.encode m ++ q.data.toList ++ st.data.toList.take k) ∧ Fr (w.heap.size + 1) (w.alloc (.cells cc 25)) wr) (fun _ i _ => st.size - (intOf i).toNat)
              case atStart => exact ⟨0, by omega, rfl, by simpa using ho, hf⟩
              case round =>
                obtain ⟨k, hk, rfl, ho, hf⟩ := hrel
                have zr : w.heap.size + 1 ≤ wr.heap.size := by have := hf.size; simpa using this
                have hl := take_length st k hk
                have hql : q.data.toList.length = q.size := by rw [Array.length_toList]; rfl
                have HQL := Lib.hid hql
                clear hql
                by_cases hlt : k < st.size
                · go_wp2_with (at_builtin; refine wpList_app_byte byt rfl _ _ rfl (w.heap.size + 1) _ _ rfl (ho.alloc _) wr.heap.size 1 st[k] rfl ?_ ?_ ?_ ?_)
                  · simp
                  · simp only [List.length_append, hl, HPL.out, HEL.out, HQL.out]; omega
                  · simp; omega
                  intro v3 w3 o3 f3
                  have g3 : Fr (w.heap.size + 1) (w.alloc (.cells cc 25)) w3 := (hf.alloc zr _).trans f3
                  have o3' : Own w3 (w.heap.size + 1) v3 (lb ++ p.data.toList ++ Lib.Hx.encode m ++ q.data.toList ++ st.data.toList.take (k + 1)) := by rw [take_snoc st k hlt]; simpa only [List.append_assoc] using o3
                  clear f3 o3 ho hf
                  go_wp2
                  go_roundw
                  case rel => first | exact ⟨k + 1, by omega, by go_num, o3', g3⟩ | ((repeat apply Exists.intro); exact ⟨⟨k + 1, by omega, by go_num, o3', g3⟩, rfl⟩)
                  case measure => simp [intOf]; omega
                · have hkk : k = st.size := by omega
                  subst hkk
                  rw [take_all] at ho
                  go_wp2
                  go_ret
                  refine ⟨_, rfl, ?_, ((Below.refl _ w).alloc (Nat.le_refl _) _).trans (hf.1.mono (by omega))⟩
                  have hp := HP.out
                  have hq := HQ.out
                  subst hp hq
                  exact ho
end Go.Proofs.Ybulkaqwa
