/-
  THE WALK OF zzs2119cdec: the decimal numeral, as strconv writes it.
-/
import Derived.Test.YbulkaqwaDoorCopy
namespace Go.Proofs.YbulkaqwaDoor
open Go Go.RowKit

def Z : Array Value := #[Value.int IntKind.u8 0, Value.int IntKind.u8 0, Value.int IntKind.u8 0, Value.int IntKind.u8 0, Value.int IntKind.u8 0, Value.int IntKind.u8 0, Value.int IntKind.u8 0, Value.int IntKind.u8 0, Value.int IntKind.u8 0, Value.int IntKind.u8 0, Value.int IntKind.u8 0, Value.int IntKind.u8 0, Value.int IntKind.u8 0, Value.int IntKind.u8 0, Value.int IntKind.u8 0, Value.int IntKind.u8 0, Value.int IntKind.u8 0, Value.int IntKind.u8 0, Value.int IntKind.u8 0, Value.int IntKind.u8 0]

theorem Fr.of_below {B : Nat} {w w' : World} (h : Below w.heap.size w w') (hB : B ≤ w.heap.size) : Fr B w w' :=
  ⟨h.mono hB, fun k o hk _ _ => by rw [h.block k (Array.getElem?_eq_some_iff.1 hk).1]; exact hk⟩

theorem dec_step (x : Nat) (h : ¬ x < 10) : Lib.decDigits x = Lib.decDigits (x / 10) ++ [UInt8.ofNat (48 + x % 10)] := by
  rw [Lib.decDigits, dif_neg h]
theorem dec_last (x : Nat) (h : x < 10) : Lib.decDigits x = [UInt8.ofNat (48 + x % 10)] := by
  rw [Lib.decDigits, dif_pos h, Nat.mod_eq_of_lt h]

theorem slice_tail (W : World) (h k : Nat) (hk : k ≤ 19) : (Instr.sliceAt 23 (.pointer (some ⟨h, 0, none⟩)) (some (.int .i64 (20 - (k : Int) - 1))) none none).run Ybad.prog W = .ok (.slice (some ⟨h, 19 - k, none⟩) (k + 1) (k + 1)) W := by
  have hl : Ybad.prog.arrayLen 23 = 20 := by kernel_rfl
  have he : Ybad.prog.elem 23 = 5 := by kernel_rfl
  rw [run_sliceAt_array_l W 23 ⟨h, 0, none⟩ (by rw [hl, he]; exact Ybad.underlying23) .i64 (20 - (k : Int) - 1) (by omega) (by rw [hl]; omega), hl, he, Ybad.sizeOf5]
  have e1 : (20 - (k : Int) - 1).toNat = 19 - k := by omega
  simp only [Result.andThen_ok, slicedAt, e1]
  rw [if_neg (by omega)]
  have e2 : (⟨h, 0, none⟩ : Addr).add ((19 - k) * 1) = ⟨h, 19 - k, none⟩ := by rw [Nat.mul_one, Addr.add_mid, Nat.zero_add]
  have e3 : 20 - (19 - k) = k + 1 := by omega
  rw [e2, e3]

/-- One digit more in front. -/
theorem row_more {w : World} {h k : Nat} {f : Nat → Value} {ds : List UInt8} (d : UInt8) (hk : k ≤ 19) (hl : ds.length = k) (hr : w.rowIs h 23 20 f) (hf : ∀ j (hj : j < ds.length), f (20 - k + j) = .int .u8 (ds[j].toNat : Int)) :
    ∀ j (hj : j < (d :: ds).length), (w.setCell ⟨h, 19 - k, none⟩ (.int .u8 (d.toNat : Int))).cell? ⟨h, 19 - k + j, none⟩ = some (.int .u8 ((d :: ds)[j].toNat : Int)) := by
  intro j hj
  have hj' : j < ds.length + 1 := by simpa using hj
  rw [(hr.set (19 - k) _).cell (i := 19 - k + j) (by omega)]
  by_cases h0 : j = 0
  · subst h0
    rw [if_pos (by omega)]
    rfl
  · rw [if_neg (by omega)]
    obtain ⟨i, rfl⟩ : ∃ i, j = i + 1 := ⟨j - 1, by omega⟩
    have := hf i (by omega)
    rw [show 19 - k + (i + 1) = 20 - k + i by omega, this]
    rfl

theorem digit_val (x : Nat) : ((48 : Int) + (x : Int) % 10) = ((UInt8.ofNat (48 + x % 10)).toNat : Int) := by
  rw [UInt8.toNat_ofNat']
  omega

set_option maxHeartbeats 2000000 in
set_option maxRecDepth 100000 in
theorem dec_any (B : Nat) (v : Value) (l : List UInt8) (u : Nat) (w : World) (hown : Own w B v l) (hB : B ≤ w.heap.size) (hu : u < 18446744073709551616) (hlim : l.length + 20 ≤ 140737488355328) :
    Calls Ybad.prog 10 #[v, .int .u64 u] w fun e w' => ∃ v', e = .returned v' ∧ Own w' B v' (l ++ Lib.decDigits u) ∧ Fr B w w' := by
  have HU := Lib.hid hu
  have r0 : (w.alloc (.cells Z 23)).rowIs w.heap.size 23 20 (fun _ => .int .u8 0) := by
    refine ⟨Z, heap_alloc_new w _, rfl, fun i hi => ?_⟩
    have e : Z = Array.replicate 20 (.int .u8 0) := rfl
    rw [e]
    simp [hi]
  have b0 : Below w.heap.size w (w.alloc (.cells Z 23)) := (Below.refl _ w).alloc (Nat.le_refl _) _
  have R0 := Lib.hid r0
  have HB0 := Lib.hid b0
  clear r0 b0 hu
  go_enter Ybad.func10, Ybad.ntmps10
  go_wp2
  go_loopw [1, 6] (fun vv vi wr => ∃ (k x : Nat) (ds : List UInt8) (f : Nat → Value), k ≤ 19 ∧ x < 18446744073709551616 ∧ vi = .int .i64 (20 - (k : Int)) ∧ vv = .int .u64 (x : Int) ∧
      Hid (ds.length = k ∧ Lib.decDigits u = Lib.decDigits x ++ ds ∧ (x + 1) * 10 ^ k ≤ u + 10 ^ k ∧ (0 < k → 0 < x)) ∧ Hid (wr.rowIs w.heap.size 23 20 f) ∧ Hid (∀ j (hj : j < ds.length), f (20 - k + j) = .int .u8 (ds[j].toNat : Int)) ∧ Hid (Below w.heap.size w wr)) (fun _ vi _ => (intOf vi).toNat)
  case atStart => exact ⟨0, u, [], _, by omega, HU.out, rfl, rfl, Lib.hid ⟨rfl, by simp, by simp, by simp⟩, R0, Lib.hid (fun j hj => by simp at hj), HB0⟩
  case round =>
    obtain ⟨k, x, ds, f, hk, hx, rfl, rfl, H1, H2, H3, H4⟩ := hrel
    have hf1 : wr.frozen? ⟨w.heap.size, 19 - k, none⟩ = false := H2.out.frozen _
    have hc1 : wr.cell? ⟨w.heap.size, 19 - k, none⟩ = some (f (19 - k)) := H2.out.cell (by omega)
    have hi19 : (20 - (k : Int) - 1).toNat = 19 - k := by omega
    obtain ⟨D, hD⟩ : ∃ D : UInt8, D = UInt8.ofNat (48 + x % 10) := ⟨_, rfl⟩
    have hdv := digit_val x
    rw [← hD] at hdv
    have HDV := Lib.hid hdv
    have HD := Lib.hid hD
    clear hdv hD
    by_cases hx10 : x < 10
    · have hq : ((x : Int) / 10 == 0) = true := by rw [beq_iff_eq]; omega
      have hsl := fun W => slice_tail W w.heap.size k hk
      have hcells := row_more D hk H1.out.1 H2.out H3.out
      rw [← HDV.out] at hcells
      have HCELLS := Lib.hid hcells
      have bel : Below w.heap.size w (wr.setCell ⟨w.heap.size, 19 - k, none⟩ (.int .u8 (48 + (x : Int) % 10))) := H4.out.setCell (Nat.le_refl _) _
      have own1 := hown.below bel (Nat.le_refl _)
      have hfin : Lib.decDigits u = D :: ds := by rw [H1.out.2.1, dec_last x hx10, ← HD.out]; rfl
      have HFIN := Lib.hid hfin
      have HBEL := Lib.hid bel
      have HOWN1 := Lib.hid own1
      have hdl : (D :: ds).length = k + 1 := by rw [List.length_cons, H1.out.1]
      have HDL := Lib.hid hdl
      clear hcells hfin bel own1 hdl hown
      go_wp2_with (at_builtin; refine wpList_app_bytes byt rfl _ _ rfl B _ l rfl HOWN1.out ⟨w.heap.size, 19 - k, none⟩ (k + 1) (k + 1) (D :: ds) rfl HDL.out.symm ?_ ?_ ?_ ?_)
      · intro j hj
        rw [Addr.add_mid]
        exact HCELLS.out j hj
      · rw [HDL.out]; omega
      · exact Nat.le_trans hB HBEL.out.size
      intro v2 w2 o2 f2
      have g2 : Fr B w w2 := (Fr.of_below HBEL.out hB).trans f2
      have o2' : Own w2 B v2 (l ++ Lib.decDigits u) := by rw [HFIN.out]; exact o2
      clear o2 f2 HCELLS HOWN1 HBEL
      go_wp2
      go_ret
      exact ⟨v2, rfl, o2', g2⟩
    · have hq : ((x : Int) / 10 == 0) = false := by rw [beq_eq_false_iff_ne]; omega
      have hk18 : k + 1 ≤ 19 := by
        have h1 := H1.out.2.2.1
        have h2 := HU.out
        rcases Nat.lt_or_ge k 19 with h | h
        · omega
        · have e : k = 19 := by omega
          subst e
          have e2 : (10 : Nat) ^ 19 = 10000000000000000000 := by decide
          rw [e2] at h1
          omega
      have hi0 : ((20 : Int) - (k : Int) - 1 == 0) = false := by rw [beq_eq_false_iff_ne]; omega
      have hrow := (H2.out.set (19 - k) (.int .u8 (48 + (x : Int) % 10)))
      have HROW := Lib.hid hrow
      have hcells := row_more D hk H1.out.1 H2.out H3.out
      have bel : Below w.heap.size w (wr.setCell ⟨w.heap.size, 19 - k, none⟩ (.int .u8 (48 + (x : Int) % 10))) := H4.out.setCell (Nat.le_refl _) _
      have HBEL := Lib.hid bel
      have hnew : Hid ((D :: ds).length = k + 1 ∧ Lib.decDigits u = Lib.decDigits (x / 10) ++ (D :: ds) ∧ (x / 10 + 1) * 10 ^ (k + 1) ≤ u + 10 ^ (k + 1) ∧ (0 < k + 1 → 0 < x / 10)) := by
        refine Lib.hid ⟨by rw [List.length_cons, H1.out.1], ?_, ?_, fun _ => by omega⟩
        · rw [H1.out.2.1, dec_step x hx10, ← HD.out, List.append_assoc]
          rfl
        · have h1 := H1.out.2.2.1
          have h3 : x / 10 * 10 ≤ x := Nat.div_mul_le_self x 10
          have h4 : x / 10 * 10 * 10 ^ k ≤ x * 10 ^ k := Nat.mul_le_mul_right _ h3
          have h5 : (x / 10 + 1) * 10 ^ (k + 1) = x / 10 * 10 * 10 ^ k + 10 ^ (k + 1) := by rw [Nat.pow_succ, Nat.add_mul, Nat.one_mul, Nat.mul_assoc, Nat.mul_comm 10 (10 ^ k)]
          rw [h5]
          rw [Nat.add_mul, Nat.one_mul] at h1
          omega
      have hfx : Hid (∀ j (hj : j < (D :: ds).length), (fun j => if j = 19 - k then Value.int .u8 (48 + (x : Int) % 10) else f j) (20 - (k + 1) + j) = .int .u8 ((D :: ds)[j].toNat : Int)) := by
        refine Lib.hid fun j hj => ?_
        have hj' : j < ds.length + 1 := by simpa using hj
        have hl := H1.out.1
        have h1 := hcells j hj
        rw [← HDV.out, hrow.cell (i := 19 - k + j) (by omega)] at h1
        have h2 := Option.some.inj h1
        rw [show 20 - (k + 1) + j = 19 - k + j by omega]
        exact h2
      have hkk : (20 : Int) - (k : Int) - 1 = 20 - ((k + 1 : Nat) : Int) := by omega
      have HKK := Lib.hid hkk
      clear hcells bel hkk hrow
      go_wp2
      go_roundw
      case rel => exact ⟨k + 1, x / 10, D :: ds, _, by omega, by omega, by rw [HKK.out], by go_num, hnew, HROW, hfx, HBEL⟩
      case measure => simp [intOf]; omega
end Go.Proofs.YbulkaqwaDoor
