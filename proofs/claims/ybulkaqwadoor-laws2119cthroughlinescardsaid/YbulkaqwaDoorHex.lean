/-
  THE WALK OF zzs2119chex: two digits a byte; its round is a region that draws its order.
-/
import Derived.Test.YbulkaqwaDoorDec
import Derived.Deep.RegionHeld3
namespace Go.Proofs.YbulkaqwaDoor
open Go Go.RowKit

theorem cell_new (w : World) (V : Value) : (w.alloc (.cells #[V] 5)).cell? ⟨w.heap.size, 0, none⟩ = some V := by simp
theorem hi_dig (x : Int) (b d : UInt8) (hb : x = (b.toNat : Int)) (hd : d = Lib.Hx.digit (b.toNat / 16)) (h : (x / 16).toNat < Lib.Hx.tab.size) : some (Value.int .u8 ((Lib.Hx.tab[(x / 16).toNat]'h).toNat : Int)) = some (Value.int .u8 (d.toNat : Int)) := by
  have hlt := b.toNat_lt
  rw [Lib.Hx.dig_hi x (by omega) (by omega) h, Lib.Hx.byte_toNat x (by omega) (by omega), hd, hb, Int.toNat_natCast]
theorem lo_dig (x : Int) (b d : UInt8) (hb : x = (b.toNat : Int)) (hd : d = Lib.Hx.digit (b.toNat % 16)) (h : (x % 16).toNat < Lib.Hx.tab.size) : some (Value.int .u8 ((Lib.Hx.tab[(x % 16).toNat]'h).toNat : Int)) = some (Value.int .u8 (d.toNat : Int)) := by
  have hlt := b.toNat_lt
  rw [Lib.Hx.dig_lo x (by omega) (by omega) h, Lib.Hx.byte_toNat x (by omega) (by omega), hd, hb, Int.toNat_natCast]
theorem encode_snoc (m : List UInt8) (k : Nat) (h : k < m.length) : Lib.Hx.encode (m.take (k + 1)) = Lib.Hx.encode (m.take k) ++ [Lib.Hx.digit (m[k].toNat / 16)] ++ [Lib.Hx.digit (m[k].toNat % 16)] := by
  rw [List.take_succ_eq_append_getElem h]
  unfold Lib.Hx.encode
  rw [List.flatMap_append, List.append_assoc]
  rfl


/-- append(b, x...) at a step of a region that draws its order. -/
theorem step_app_bytes {P : Program} {w : World} (bp : Byt P) {ops : Array Oper} {o : Oper} {a : Act} {K : Act → World → Prop} {Q : Exit → Act → World → Prop} {E : Prop} (hgd : o.guard = none) (sl x : Operand)
    (ho : o.op = .call { callee := .builtin .append, args := #[sl, x], argTypes := #[22, 22] })
    (B : Nat) (v : Value) (l : List UInt8) (hs : a.eval sl = v) (hown : Own w B v l) (ad : Addr) (n c : Nat) (m : List UInt8) (hx : a.eval x = .slice (some ad) n c) (hn : n = m.length)
    (hc : ∀ j (hj : j < m.length), w.cell? (ad.add j) = some (.int .u8 (m[j].toNat : Int)))
    (hlim : l.length + m.length ≤ 140737488355328) (hB : B ≤ w.heap.size)
    (h : ∀ v' w', Own w' B v' (l ++ m) → Fr B w w' → K (a.put o.dst v') w') : if Region.wanted o (yielded ops a.tmps) = true then Oper.wp P o a w K Q else E := by
  have hw : Region.wanted o (yielded ops a.tmps) = true := by simp [Region.wanted, hgd]
  rw [if_pos hw]
  obtain ⟨i0, hi, hz0, hz1, hz2⟩ := info_parts bp.i5
  subst hn
  refine wp_append_own w sl x 22 ho B 5 i0 (.int .u8 0) 1 1 bp.u22 hi hz0 hz1 hz2 rfl (by decide) v _ _ hs hown ad m.length c (Lib.byteCells m) hx (by simp [byteCells_length]) ?_ (byteCells_oneCell m) (by unfold maxLen; omega) (by omega) hB ?_
  · intro j u hu
    obtain ⟨hj, rfl⟩ := byteCells_getElem? m j u hu
    exact hc j hj
  · intro v' w' h1 h2 _
    refine h v' w' ?_ ((Fr.refl B w).grown hown h2 hB)
    show w'.ownsRow B 5 1 v' (l ++ m).length (Lib.byteCells (l ++ m))
    rw [byteCells_append, List.length_append]
    exact h1

theorem and15 : ∀ n : Nat, n < 256 → bits BinOp.and IntKind.u8 (n : Int) 15 = (n : Int) % 16 := by decide +kernel

theorem two_cells (w : World) (V1 V2 : Value) (d1 d2 : UInt8) (h1 : V1 = .int .u8 (d1.toNat : Int)) (h2 : V2 = .int .u8 (d2.toNat : Int)) (W : World) (hW : W.heap[w.heap.size]? = some (.cells #[V1, V2] 5 (0, 0))) :
    ∀ j (hj : j < [d1, d2].length), W.cell? ((⟨w.heap.size, 0, none⟩ : Addr).add j) = some (.int .u8 ([d1, d2][j].toNat : Int)) := by
  subst h1 h2
  intro j hj
  rw [Addr.add_mid, Nat.zero_add, cell_of_row W w.heap.size j _ 5 _ hW]
  match j, hj with
  | 0, _ => rfl
  | 1, _ => rfl

set_option maxHeartbeats 4000000 in
set_option maxRecDepth 100000 in
theorem hex_any (B : Nat) (v : Value) (l m : List UInt8) (w : World) (cc : Array Value) (hown : Own w B v l) (hB : B ≤ w.heap.size) (hm : m.length = 20) (hlim : l.length + 2000 ≤ 140737488355328) (hcc : cc = (Lib.byteCells m).toArray) :
    Calls Ybad.prog 13 #[v, .agg cc] w fun e w' => ∃ v', e = .returned v' ∧ Own w' B v' (l ++ Lib.Hx.encode m) ∧ Fr B w w' := by
  have HC := Lib.hid hcc
  have fr0 : Fr B w (w.alloc (.cells cc 23)) := (Fr.refl B w).alloc hB _
  have ho0 := hown.alloc (.cells cc 23)
  clear hcc hown
  go_enter Ybad.func13, Ybad.ntmps13
  go_wp2
  go_loopw [0, 5] (fun v i wr => ∃ k : Nat, k ≤ 20 ∧ i = .int .i64 k ∧ Own wr B v (l ++ Lib.Hx.encode (m.take k)) ∧ Fr B (w.alloc (.cells cc 23)) wr) (fun _ i _ => 20 - (intOf i).toNat)
  case atStart => exact ⟨0, by omega, rfl, by simpa [Lib.Hx.encode] using ho0, Fr.refl _ _⟩
  case round =>
    obtain ⟨k, hk, rfl, ho, hf⟩ := hrel
    clear ho0
    have zr : w.heap.size + 1 ≤ wr.heap.size := by have := hf.size; simpa using this
    have zr' : B ≤ wr.heap.size := by omega
    by_cases hlt : k < 20
    · obtain ⟨x, hx⟩ : ∃ x : Int, x = (m[k].toNat : Int) := ⟨_, rfl⟩
      have hcell : ∀ (wx : World), Fr B (w.alloc (.cells cc 23)) wx → wx.cell? ⟨w.heap.size, k, none⟩ = some (.int .u8 x) := by
        intro wx hfx
        rw [cell_of_row wx w.heap.size k cc 23 (0, 0) (hfx.box (heap_alloc_new w (.cells cc 23)) (by decide)), HC.out, hx]
        simp [Lib.byteCells, hm, hlt]
      have hc1 := hcell wr hf
      have hx0 : 0 ≤ x := by omega
      have hx1 : x < 256 := by have := m[k].toNat_lt; omega
      have HX := Lib.hid hx
      have HCE := Lib.hid hcell
      obtain ⟨d1, hd1⟩ : ∃ d : UInt8, d = Lib.Hx.digit (m[k].toNat / 16) := ⟨_, rfl⟩
      obtain ⟨d2, hd2⟩ : ∃ d : UInt8, d = Lib.Hx.digit (m[k].toNat % 16) := ⟨_, rfl⟩
      have HD1 := Lib.hid hd1
      have HD2 := Lib.hid hd2
      have HEN := Lib.hid (encode_snoc m k (by omega))
      have hel := Lib.Hx.encode_length (m.take k)
      have helk : (m.take k).length ≤ 20 := by rw [List.length_take]; omega
      have hkI0 : (0 : Int) ≤ (k : Int) := by omega
      have hkI1 : (k : Int) < 20 := by omega
      have hand : bits BinOp.and IntKind.u8 x 15 = x % 16 := by rw [hx]; exact and15 _ m[k].toNat_lt
      have hq0 : 0 ≤ x / 16 := by omega
      have hq1 : x / 16 < 16 := by omega
      have hr0 : 0 ≤ x % 16 := by omega
      have hr1 : x % 16 < 16 := by omega
      have HLIM := Lib.hid (show (l ++ Lib.Hx.encode (m.take k)).length + [d1, d2].length ≤ 140737488355328 by rw [List.length_append, hel]; show _ + 2 ≤ _; omega)
      clear hd1 hd2 hx hcell hel
      go_wp2
      go_region_held3 (fun w' => w'.cell? ⟨w.heap.size, k, none⟩ = some (.int .u8 x))
        (first | go_keep | (exact HCE.out _ (((hf.alloc zr' _).drew).trans fq)))
        ((refine step_app_bytes byt (by rfl) _ _ (by rfl) B _ (l ++ Lib.Hx.encode (m.take k)) (by rfl) (by exact ho.alloc _) ⟨wr.heap.size, 0, none⟩ 2 2 [d1, d2] (by rfl) rfl (by exact two_cells wr _ _ d1 d2 (Option.some.inj (hi_dig x m[k] d1 HX.out HD1.out _)) (Option.some.inj (lo_dig x m[k] d2 HX.out HD2.out _)) _ (heap_alloc_new wr _)) HLIM.out (by simp; omega) ?_; intro v2 w2 oq fq))
      all_goals
        have g2 : Fr B (w.alloc (.cells cc 23)) w2 := ((hf.alloc zr' _).drew).trans fq
        have o2' : Own w2 B v2 (l ++ Lib.Hx.encode (m.take (k + 1))) := by
          rw [HEN.out, ← HD1.out, ← HD2.out]
          simpa using oq
        clear fq oq ho hf hc1
        go_wp2
        go_roundw
        case rel => first | exact ⟨k + 1, by omega, by go_num, o2', g2⟩ | ((repeat apply Exists.intro); exact ⟨⟨k + 1, by omega, by go_num, o2', g2⟩, rfl⟩)
        case measure => simp [intOf]; omega
    · have hkk : k = 20 := by omega
      subst hkk
      rw [List.take_of_length_le (by omega)] at ho
      go_wp2
      go_ret
      exact ⟨_, rfl, ho, fr0.trans hf⟩
end Go.Proofs.YbulkaqwaDoor
