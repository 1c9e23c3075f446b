/-
  THE SHELL OF A PROOF OF 'Rows.LawS2121COrderSaid' ('example.com/tidemark/tidemark.LawS2121COrder'), WRITTEN BY PROGRAM (proof-skeleton.mjs) off the guide's own print for that function. Not trusted: it is checked.
  THE WALK IS FILLED: contracts of the callees, then the law; the rest is the guide's template.
-/
import Derived.Test.YbulkaqxcRows
import Derived.WalkKit
import Derived.ProofKit
import Derived.OpenShut
import Derived.ShutString
import Derived.RegionTactic
import Derived.ChangeAlike
import Derived.Deep.RegionWith
namespace Go.Proofs.Ybulkaqxc.lawS2121COrder
open Go.ChangeShapes Go.WideShapes Go.ChangeAt Go.RowKit
open Go.ChangeMaps (open_string shut_string)
set_option linter.unusedVariables false      -- a walk need not use every 'w<i>' (that an integer argument fits its kind)

theorem own : ownKnob Yba.prog.godebug = none := by kernel_rfl

theorem ret_bool {b : Bool} (h : b = true) : Ending.returned (.bool b) = .returned (.bool true) := by rw [h]
/-- cmp64's answer. -/
def cmp1 (a b : Int) : Int := if a < b then -1 else if b < a then 1 else 0
def cmp3 (y m d y' m' d' : Int) : Int :=
  if y ≠ y' then (if y < y' then -1 else 1) else if m ≠ m' then (if m < m' then -1 else 1) else if d ≠ d' then (if d < d' then -1 else 1) else 0
theorem agree (y m d y' m' d' : Int) (hm : 1 ≤ m) (hm' : m ≤ 12) (hd : 1 ≤ d) (hd' : d ≤ 31) (km : 1 ≤ m') (km' : m' ≤ 12) (kd : 1 ≤ d') (kd' : d' ≤ 31) :
    cmp1 (y * 10000 + m * 100 + d) (y' * 10000 + m' * 100 + d') = cmp3 y m d y' m' d' := by
  unfold cmp1 cmp3
  repeat (first | omega | split)

theorem cmp64_any (a b : Int) (w : World) : Calls Yba.prog 6 #[.int .i64 a, .int .i64 b] w fun e w' => e = .returned (.int .i64 (cmp1 a b)) ∧ w' = w := by
  unfold cmp1
  by_cases h : a < b
  · rw [if_pos h]
    go_enter Yba.func6, Yba.ntmps6
    go_wp2
    go_ret
    exact ⟨rfl, rfl⟩
  · rw [if_neg h]
    by_cases k : b < a
    · rw [if_pos k]
      go_enter Yba.func6, Yba.ntmps6
      go_wp2
      go_ret
      exact ⟨rfl, rfl⟩
    · rw [if_neg k]
      go_enter Yba.func6, Yba.ntmps6
      go_wp2
      go_ret
      exact ⟨rfl, rfl⟩

theorem cmp3_any (y m d y' m' d' : Int) (w : World) : Calls Yba.prog 7 #[.int .i64 y, .int .i64 m, .int .i64 d, .int .i64 y', .int .i64 m', .int .i64 d'] w fun e w' => e = .returned (.int .i64 (cmp3 y m d y' m' d')) ∧ w' = w := by
  unfold cmp3
  by_cases h : y = y'
  · subst h
    rw [if_neg (by simp)]
    by_cases k : m = m'
    · subst k
      rw [if_neg (by simp)]
      by_cases j : d = d'
      · subst j
        rw [if_neg (by simp)]
        go_enter Yba.func7, Yba.ntmps7
        go_wp2
        go_ret
        exact ⟨rfl, rfl⟩
      · rw [if_pos j]
        have jb : (d != d') = true := by simpa using j
        by_cases jl : d < d'
        · rw [if_pos jl]
          go_enter Yba.func7, Yba.ntmps7
          go_wp2
          go_ret
          exact ⟨rfl, rfl⟩
        · rw [if_neg jl]
          go_enter Yba.func7, Yba.ntmps7
          go_wp2
          go_ret
          exact ⟨rfl, rfl⟩
    · rw [if_pos k]
      have jb : (m != m') = true := by simpa using k
      by_cases jl : m < m'
      · rw [if_pos jl]
        go_enter Yba.func7, Yba.ntmps7
        go_wp2
        go_ret
        exact ⟨rfl, rfl⟩
      · rw [if_neg jl]
        go_enter Yba.func7, Yba.ntmps7
        go_wp2
        go_ret
        exact ⟨rfl, rfl⟩
  · rw [if_pos h]
    have jb : (y != y') = true := by simpa using h
    by_cases jl : y < y'
    · rw [if_pos jl]
      go_enter Yba.func7, Yba.ntmps7
      go_wp2
      go_ret
      exact ⟨rfl, rfl⟩
    · rw [if_neg jl]
      go_enter Yba.func7, Yba.ntmps7
      go_wp2
      go_ret
      exact ⟨rfl, rfl⟩

theorem key_date (y m d : Int) (h0 : 0 ≤ y) (h0' : y ≤ 10000) (h1 : 0 ≤ m) (h1' : m ≤ 12) (h2 : 0 ≤ d) (h2' : d ≤ 31) (w : World) :
    Calls Yba.prog 5 #[.agg #[.int .i64 y, .int .i64 m, .int .i64 d, .string ⟨#[100, 97, 116, 101]⟩]] w fun e w' => e = .returned (.int .i64 (y * 10000 + m * 100 + d)) ∧ w' = w.alloc (.cells #[.int .i64 y, .int .i64 m, .int .i64 d, .string ⟨#[100, 97, 116, 101]⟩] 25) := by
  go_enter Yba.func5, Yba.ntmps5
  go_wp2
  go_ret
  exact ⟨rfl, rfl⟩

theorem key_month (y m d : Int) (h0 : 0 ≤ y) (h0' : y ≤ 10000) (h1 : 0 ≤ m) (h1' : m ≤ 12) (h2 : 0 ≤ d) (h2' : d ≤ 31) (w : World) :
    Calls Yba.prog 5 #[.agg #[.int .i64 y, .int .i64 m, .int .i64 d, .string ⟨#[109, 111, 110, 116, 104]⟩]] w fun e w' => e = .returned (.int .i64 (y * 10000 + m * 100)) ∧ w' = w.alloc (.cells #[.int .i64 y, .int .i64 m, .int .i64 d, .string ⟨#[109, 111, 110, 116, 104]⟩] 25) := by
  go_enter Yba.func5, Yba.ntmps5
  go_wp2
  go_ret
  exact ⟨rfl, rfl⟩

theorem key_year (y m d : Int) (h0 : 0 ≤ y) (h0' : y ≤ 10000) (h1 : 0 ≤ m) (h1' : m ≤ 12) (h2 : 0 ≤ d) (h2' : d ≤ 31) (w : World) :
    Calls Yba.prog 5 #[.agg #[.int .i64 y, .int .i64 m, .int .i64 d, .string ⟨#[121, 101, 97, 114]⟩]] w fun e w' => e = .returned (.int .i64 (y * 10000)) ∧ w' = w.alloc (.cells #[.int .i64 y, .int .i64 m, .int .i64 d, .string ⟨#[121, 101, 97, 114]⟩] 25) := by
  go_enter Yba.func5, Yba.ntmps5
  go_wp2
  go_ret
  exact ⟨rfl, rfl⟩

set_option maxHeartbeats 1000000 in
theorem core (a0 a1 a2 a3 a4 a5 : Int) (h0 : 0 ≤ a0) (h0' : a0 ≤ 65535) (h1 : 0 ≤ a1) (h1' : a1 ≤ 255) (h2 : 0 ≤ a2) (h2' : a2 ≤ 255) (h3 : 0 ≤ a3) (h3' : a3 ≤ 65535) (h4 : 0 ≤ a4) (h4' : a4 ≤ 255) (h5 : 0 ≤ a5) (h5' : a5 ≤ 255) (w : World) :
    Calls Yba.prog 4 #[.int .u16 a0, .int .u8 a1, .int .u8 a2, .int .u16 a3, .int .u8 a4, .int .u8 a5] w fun e w' => e = .returned (.bool true) ∧ Grown w w' := by
  have hag := agree (a0 % 9999 + 1) (a1 % 12 + 1) (a2 % 31 + 1) (a3 % 9999 + 1) (a4 % 12 + 1) (a5 % 31 + 1) (by omega) (by omega) (by omega) (by omega) (by omega) (by omega) (by omega) (by omega)
  have hne : (cmp1 ((a0 % 9999 + 1) * 10000 + (a1 % 12 + 1) * 100 + (a2 % 31 + 1)) ((a3 % 9999 + 1) * 10000 + (a4 % 12 + 1) * 100 + (a5 % 31 + 1)) != cmp3 (a0 % 9999 + 1) (a1 % 12 + 1) (a2 % 31 + 1) (a3 % 9999 + 1) (a4 % 12 + 1) (a5 % 31 + 1)) = false := by rw [hag]; simp
  clear hag
  go_enter Yba.func4, Yba.ntmps4
  go_wp2
  go_region_with (first
    | (go_at_call 5; refine (key_date _ _ _ (by omega) (by omega) (by omega) (by omega) (by omega) (by omega) _).mono ?_; rintro e w' ⟨rfl, rfl⟩)
    | (go_at_call 6; refine (cmp64_any _ _ _).mono ?_; rintro e w' ⟨rfl, rfl⟩)
    | (go_at_call 7; refine (cmp3_any _ _ _ _ _ _ _).mono ?_; rintro e w' ⟨rfl, rfl⟩))
  all_goals go_wp2
  all_goals go_ret
  all_goals exact ⟨ret_bool (decide_eq_true (by omega)), by repeat (first | exact Grown.refl _ | apply Grown.drew | apply Grown.alloc)⟩

/-! ### STEP 1: THE WALK: the Go text returns true. 'Grown w w'': the world has at most new blocks (Derived/RowKit3.lean). Part the cases AHEAD of 'go_enter' where a test parts the walk; take each callee by a contract of your own. -/
theorem walk (a0 : Int) (a1 : Int) (a2 : Int) (a3 : Int) (a4 : Int) (a5 : Int) (w0 : (Lit.int .u16 a0).wf = true) (w1 : (Lit.int .u8 a1).wf = true) (w2 : (Lit.int .u8 a2).wf = true) (w3 : (Lit.int .u16 a3).wf = true) (w4 : (Lit.int .u8 a4).wf = true) (w5 : (Lit.int .u8 a5).wf = true) (w : World) :
    Calls Yba.prog 4 #[.int .u16 a0, .int .u8 a1, .int .u8 a2, .int .u16 a3, .int .u8 a4, .int .u8 a5] w fun e w' => e = .returned (.bool true) ∧ Grown w w' := by
  obtain ⟨h0, h0'⟩ := bounds_u16 w0
  obtain ⟨h1, h1'⟩ := bounds_u8 w1
  obtain ⟨h2, h2'⟩ := bounds_u8 w2
  obtain ⟨h3, h3'⟩ := bounds_u16 w3
  obtain ⟨h4, h4'⟩ := bounds_u8 w4
  obtain ⟨h5, h5'⟩ := bounds_u8 w5
  exact core a0 a1 a2 a3 a4 a5 h0 h0' h1 h1' h2 h2' h3 h3' h4 h4' h5 h5' w

/-! ### THE ROW's STEP: WRITTEN OUT: LEAVE IT -/
set_option maxRecDepth 100000 in
theorem lifted (os : Os) (started : os.Started) (H : Type) (enc : TypeId × Value → H) :
    ReturnsInHanded {} Yba.checked os 4 .any (Rows.lawS2121COrderSpec.pre6 enc Yba.prog Yba.f4 Rows.lawS2121COrderRow.domain false) (Rows.lawS2121COrderSpec.post enc Yba.prog Yba.f4 false true false false) := by
  refine returnsInHanded_of_change (C := Yba.checked) own started (by kernel_rfl) Yba.func4
    (ChangeSpec.witness6 (enc := enc) (C := Yba.checked) false ⟨#[], #[.int .u16 0, .int .u8 0, .int .u8 0, .int .u16 0, .int .u8 0, .int .u8 0], []⟩ 8 (by kernel_rfl) (by kernel_rfl) (by kernel_rfl) (by kernel_rfl)) ?_
  intro W base args ds gs before hval0 hW hcnd _
  have hval : ∀ (j : Nat) t v, Yba.f4.params[j]? = some t → args[j]? = some v → Value.okWide Yba.prog W .any base t v := hval0
  have hW' := hW
  obtain ⟨p, q, hA0, hV, rfl, hfz, hnd⟩ := hW
  have hA : DataW.TrodAll enc Yba.prog W 0 (fun _ => true) true Yba.f4.params.toList args.toList ds p := hA0
  rw [Yba.params4] at hA hval
  obtain ⟨v0, vs0, d0, ds0, p0, q0, hargs, rfl, rfl, h0, r0⟩ := trodAll_cons hA
  obtain ⟨v1, vs1, d1, ds1, p1, q1, rfl, rfl, rfl, h1, r1⟩ := trodAll_cons r0
  obtain ⟨v2, vs2, d2, ds2, p2, q2, rfl, rfl, rfl, h2, r2⟩ := trodAll_cons r1
  obtain ⟨v3, vs3, d3, ds3, p3, q3, rfl, rfl, rfl, h3, r3⟩ := trodAll_cons r2
  obtain ⟨v4, vs4, d4, ds4, p4, q4, rfl, rfl, rfl, h4, r4⟩ := trodAll_cons r3
  obtain ⟨v5, vs5, d5, ds5, p5, q5, rfl, rfl, rfl, h5, r5⟩ := trodAll_cons r4
  obtain ⟨rfl, rfl, rfl⟩ := trodAll_nil r5
  obtain rfl : args = #[v0, v1, v2, v3, v4, v5] := by cases args; simp_all
  obtain ⟨rfl, rfl⟩ := trodVars_none hV
  obtain ⟨a0, rfl, rfl, rfl, w0⟩ := open_int Yba.underlying22 (hval 0 22 v0 rfl rfl) h0
  obtain ⟨a1, rfl, rfl, rfl, w1⟩ := open_int Yba.underlying5 (hval 1 5 v1 rfl rfl) h1
  obtain ⟨a2, rfl, rfl, rfl, w2⟩ := open_int Yba.underlying5 (hval 2 5 v2 rfl rfl) h2
  obtain ⟨a3, rfl, rfl, rfl, w3⟩ := open_int Yba.underlying22 (hval 3 22 v3 rfl rfl) h3
  obtain ⟨a4, rfl, rfl, rfl, w4⟩ := open_int Yba.underlying5 (hval 4 5 v4 rfl rfl) h4
  obtain ⟨a5, rfl, rfl, rfl, w5⟩ := open_int Yba.underlying5 (hval 5 5 v5 rfl rfl) h5
  clear hA0 hval0
  simp only [List.append_nil] at hW'
  refine (walk a0 a1 a2 a3 a4 a5 w0 w1 w2 w3 w4 w5 W).mono fun e W' ⟨he, hg⟩ => ?_
  subst he
  exact ⟨_, rfl, post_of_same (pa := []) (pv := []) hW' (fun _ _ _ => (trodAll_cons_mk (shut_bool Yba.underlying4 _) trodAll_mk0)) (fun sp _ => (trodAll_cons_mk (shut_int Yba.underlying22 w0) (trodAll_cons_mk (shut_int Yba.underlying5 w1) (trodAll_cons_mk (shut_int Yba.underlying5 w2) (trodAll_cons_mk (shut_int Yba.underlying22 w3) (trodAll_cons_mk (shut_int Yba.underlying5 w4) (trodAll_cons_mk (shut_int Yba.underlying5 w5) trodAll_mk0))))))) (fun _ _ => rfl) rfl
    (hg.frame _) hg.2.1 (ok_one (by kernel_rfl) rfl (okWide_bool_mk Yba.underlying4 _))⟩

theorem over : Rows.lawS2121COrderRow.holds Yba.pinned (OpenSpec.ofChange Rows.lawS2121COrderSpec) :=
  OpenClaim.holds_of_wide 4 Yba.f4 rfl rfl rfl rfl rfl rfl rfl ⟨rfl, rfl, rfl, rfl, rfl⟩ rfl rfl rfl rfl rfl (by kernel_rfl) Yba.func4 (by kernel_rfl)
    (of_decide_eq_true (by kernel_rfl)) (by unfold Func.isWrapper; first | (rw [if_pos (by decide +kernel)]; kernel_rfl) | (rw [if_neg (by decide +kernel)]; exact ⟨rfl, rfl⟩))
    (fun os started H enc _ => lifted os started H enc)

/-- ████ THE STATEMENT ████ -/
theorem proved : Rows.LawS2121COrderSaid :=
  over
#print axioms proved
end Go.Proofs.Ybulkaqxc.lawS2121COrder
