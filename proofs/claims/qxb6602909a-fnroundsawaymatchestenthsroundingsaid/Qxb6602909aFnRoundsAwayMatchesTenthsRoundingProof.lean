/-
  THE PROOF OF 'Rows.FnRoundsAwayMatchesTenthsRoundingSaid': the shell that the skeleton tool wrote, its walk filled: every test on the road decided ahead of the walk.
-/
import Derived.Test.Qxb6602909aRows
import Derived.WalkKit
import Derived.ProofKit
import Derived.OpenShut
import Derived.ShutString
namespace Go.Proofs.Qxb6602909a.fnRoundsAwayMatchesTenthsRounding
open Go.ChangeShapes Go.WideShapes Go.ChangeAt Go.RowKit
open Go.ChangeMaps (open_string shut_string)
set_option linter.unusedVariables false      -- a walk need not use every 'w<i>' (that an integer argument fits its kind)

theorem own : ownKnob Try.prog.godebug = none := by kernel_rfl

set_option maxHeartbeats 1000000 in
theorem m0_t_exact (od : Bool) (h : Int) (hh : h < 0) (w : World) : Calls Try.prog 5 #[.int .i64 0, .bool true, .bool od, .bool false, .int .i64 h] w fun e w' => e = .returned (.bool true) ∧ Grown w w' := by
  have e0 : (h == 0) = false := by simp; omega
  have d1 : decide (0 < h) = false := by simp; omega
  have d2 : decide (0 ≤ h) = false := by simp; omega
  have d3 : decide (h < 0) = true := by simp; omega
  cases od
  all_goals
    go_enter Try.func5, Try.ntmps5
    go_wp2
    go_ret
    exact ⟨rfl, Grown.refl _⟩

set_option maxHeartbeats 1000000 in
theorem m0_t_lo (od : Bool) (h : Int) (hh : h < 0) (w : World) : Calls Try.prog 5 #[.int .i64 0, .bool true, .bool od, .bool true, .int .i64 h] w fun e w' => e = .returned (.bool true) ∧ Grown w w' := by
  have e0 : (h == 0) = false := by simp; omega
  have d1 : decide (0 < h) = false := by simp; omega
  have d2 : decide (0 ≤ h) = false := by simp; omega
  have d3 : decide (h < 0) = true := by simp; omega
  cases od
  all_goals
    go_enter Try.func5, Try.ntmps5
    go_wp2
    go_ret
    exact ⟨rfl, Grown.refl _⟩

set_option maxHeartbeats 1000000 in
theorem m0_t_mid (od : Bool)  (w : World) : Calls Try.prog 5 #[.int .i64 0, .bool true, .bool od, .bool true, .int .i64 0] w fun e w' => e = .returned (.bool true) ∧ Grown w w' := by
  cases od
  all_goals
    go_enter Try.func5, Try.ntmps5
    go_wp2
    go_ret
    exact ⟨rfl, Grown.refl _⟩

set_option maxHeartbeats 1000000 in
theorem m0_t_hi (od : Bool) (h : Int) (hh : 0 < h) (w : World) : Calls Try.prog 5 #[.int .i64 0, .bool true, .bool od, .bool true, .int .i64 h] w fun e w' => e = .returned (.bool true) ∧ Grown w w' := by
  have e0 : (h == 0) = false := by simp; omega
  have d1 : decide (0 < h) = true := by simp; omega
  have d2 : decide (0 ≤ h) = true := by simp; omega
  have d3 : decide (h < 0) = false := by simp; omega
  cases od
  all_goals
    go_enter Try.func5, Try.ntmps5
    go_wp2
    go_ret
    exact ⟨rfl, Grown.refl _⟩

set_option maxHeartbeats 1000000 in
theorem m0_f_exact (od : Bool) (h : Int) (hh : h < 0) (w : World) : Calls Try.prog 5 #[.int .i64 0, .bool false, .bool od, .bool false, .int .i64 h] w fun e w' => e = .returned (.bool true) ∧ Grown w w' := by
  have e0 : (h == 0) = false := by simp; omega
  have d1 : decide (0 < h) = false := by simp; omega
  have d2 : decide (0 ≤ h) = false := by simp; omega
  have d3 : decide (h < 0) = true := by simp; omega
  cases od
  all_goals
    go_enter Try.func5, Try.ntmps5
    go_wp2
    go_ret
    exact ⟨rfl, Grown.refl _⟩

set_option maxHeartbeats 1000000 in
theorem m0_f_lo (od : Bool) (h : Int) (hh : h < 0) (w : World) : Calls Try.prog 5 #[.int .i64 0, .bool false, .bool od, .bool true, .int .i64 h] w fun e w' => e = .returned (.bool true) ∧ Grown w w' := by
  have e0 : (h == 0) = false := by simp; omega
  have d1 : decide (0 < h) = false := by simp; omega
  have d2 : decide (0 ≤ h) = false := by simp; omega
  have d3 : decide (h < 0) = true := by simp; omega
  cases od
  all_goals
    go_enter Try.func5, Try.ntmps5
    go_wp2
    go_ret
    exact ⟨rfl, Grown.refl _⟩

set_option maxHeartbeats 1000000 in
theorem m0_f_mid (od : Bool)  (w : World) : Calls Try.prog 5 #[.int .i64 0, .bool false, .bool od, .bool true, .int .i64 0] w fun e w' => e = .returned (.bool true) ∧ Grown w w' := by
  cases od
  all_goals
    go_enter Try.func5, Try.ntmps5
    go_wp2
    go_ret
    exact ⟨rfl, Grown.refl _⟩

set_option maxHeartbeats 1000000 in
theorem m0_f_hi (od : Bool) (h : Int) (hh : 0 < h) (w : World) : Calls Try.prog 5 #[.int .i64 0, .bool false, .bool od, .bool true, .int .i64 h] w fun e w' => e = .returned (.bool true) ∧ Grown w w' := by
  have e0 : (h == 0) = false := by simp; omega
  have d1 : decide (0 < h) = true := by simp; omega
  have d2 : decide (0 ≤ h) = true := by simp; omega
  have d3 : decide (h < 0) = false := by simp; omega
  cases od
  all_goals
    go_enter Try.func5, Try.ntmps5
    go_wp2
    go_ret
    exact ⟨rfl, Grown.refl _⟩

set_option maxHeartbeats 1000000 in
theorem m1_t_exact (od : Bool) (h : Int) (hh : h < 0) (w : World) : Calls Try.prog 5 #[.int .i64 1, .bool true, .bool od, .bool false, .int .i64 h] w fun e w' => e = .returned (.bool true) ∧ Grown w w' := by
  have e0 : (h == 0) = false := by simp; omega
  have d1 : decide (0 < h) = false := by simp; omega
  have d2 : decide (0 ≤ h) = false := by simp; omega
  have d3 : decide (h < 0) = true := by simp; omega
  cases od
  all_goals
    go_enter Try.func5, Try.ntmps5
    go_wp2
    go_ret
    exact ⟨rfl, Grown.refl _⟩

set_option maxHeartbeats 1000000 in
theorem m1_t_lo (od : Bool) (h : Int) (hh : h < 0) (w : World) : Calls Try.prog 5 #[.int .i64 1, .bool true, .bool od, .bool true, .int .i64 h] w fun e w' => e = .returned (.bool true) ∧ Grown w w' := by
  have e0 : (h == 0) = false := by simp; omega
  have d1 : decide (0 < h) = false := by simp; omega
  have d2 : decide (0 ≤ h) = false := by simp; omega
  have d3 : decide (h < 0) = true := by simp; omega
  cases od
  all_goals
    go_enter Try.func5, Try.ntmps5
    go_wp2
    go_ret
    exact ⟨rfl, Grown.refl _⟩

set_option maxHeartbeats 1000000 in
theorem m1_t_mid (od : Bool)  (w : World) : Calls Try.prog 5 #[.int .i64 1, .bool true, .bool od, .bool true, .int .i64 0] w fun e w' => e = .returned (.bool true) ∧ Grown w w' := by
  cases od
  all_goals
    go_enter Try.func5, Try.ntmps5
    go_wp2
    go_ret
    exact ⟨rfl, Grown.refl _⟩

set_option maxHeartbeats 1000000 in
theorem m1_t_hi (od : Bool) (h : Int) (hh : 0 < h) (w : World) : Calls Try.prog 5 #[.int .i64 1, .bool true, .bool od, .bool true, .int .i64 h] w fun e w' => e = .returned (.bool true) ∧ Grown w w' := by
  have e0 : (h == 0) = false := by simp; omega
  have d1 : decide (0 < h) = true := by simp; omega
  have d2 : decide (0 ≤ h) = true := by simp; omega
  have d3 : decide (h < 0) = false := by simp; omega
  cases od
  all_goals
    go_enter Try.func5, Try.ntmps5
    go_wp2
    go_ret
    exact ⟨rfl, Grown.refl _⟩

set_option maxHeartbeats 1000000 in
theorem m1_f_exact (od : Bool) (h : Int) (hh : h < 0) (w : World) : Calls Try.prog 5 #[.int .i64 1, .bool false, .bool od, .bool false, .int .i64 h] w fun e w' => e = .returned (.bool true) ∧ Grown w w' := by
  have e0 : (h == 0) = false := by simp; omega
  have d1 : decide (0 < h) = false := by simp; omega
  have d2 : decide (0 ≤ h) = false := by simp; omega
  have d3 : decide (h < 0) = true := by simp; omega
  cases od
  all_goals
    go_enter Try.func5, Try.ntmps5
    go_wp2
    go_ret
    exact ⟨rfl, Grown.refl _⟩

set_option maxHeartbeats 1000000 in
theorem m1_f_lo (od : Bool) (h : Int) (hh : h < 0) (w : World) : Calls Try.prog 5 #[.int .i64 1, .bool false, .bool od, .bool true, .int .i64 h] w fun e w' => e = .returned (.bool true) ∧ Grown w w' := by
  have e0 : (h == 0) = false := by simp; omega
  have d1 : decide (0 < h) = false := by simp; omega
  have d2 : decide (0 ≤ h) = false := by simp; omega
  have d3 : decide (h < 0) = true := by simp; omega
  cases od
  all_goals
    go_enter Try.func5, Try.ntmps5
    go_wp2
    go_ret
    exact ⟨rfl, Grown.refl _⟩

set_option maxHeartbeats 1000000 in
theorem m1_f_mid (od : Bool)  (w : World) : Calls Try.prog 5 #[.int .i64 1, .bool false, .bool od, .bool true, .int .i64 0] w fun e w' => e = .returned (.bool true) ∧ Grown w w' := by
  cases od
  all_goals
    go_enter Try.func5, Try.ntmps5
    go_wp2
    go_ret
    exact ⟨rfl, Grown.refl _⟩

set_option maxHeartbeats 1000000 in
theorem m1_f_hi (od : Bool) (h : Int) (hh : 0 < h) (w : World) : Calls Try.prog 5 #[.int .i64 1, .bool false, .bool od, .bool true, .int .i64 h] w fun e w' => e = .returned (.bool true) ∧ Grown w w' := by
  have e0 : (h == 0) = false := by simp; omega
  have d1 : decide (0 < h) = true := by simp; omega
  have d2 : decide (0 ≤ h) = true := by simp; omega
  have d3 : decide (h < 0) = false := by simp; omega
  cases od
  all_goals
    go_enter Try.func5, Try.ntmps5
    go_wp2
    go_ret
    exact ⟨rfl, Grown.refl _⟩

set_option maxHeartbeats 1000000 in
theorem m2_t_exact (od : Bool) (h : Int) (hh : h < 0) (w : World) : Calls Try.prog 5 #[.int .i64 2, .bool true, .bool od, .bool false, .int .i64 h] w fun e w' => e = .returned (.bool true) ∧ Grown w w' := by
  have e0 : (h == 0) = false := by simp; omega
  have d1 : decide (0 < h) = false := by simp; omega
  have d2 : decide (0 ≤ h) = false := by simp; omega
  have d3 : decide (h < 0) = true := by simp; omega
  cases od
  all_goals
    go_enter Try.func5, Try.ntmps5
    go_wp2
    go_ret
    exact ⟨rfl, Grown.refl _⟩

set_option maxHeartbeats 1000000 in
theorem m2_t_lo (od : Bool) (h : Int) (hh : h < 0) (w : World) : Calls Try.prog 5 #[.int .i64 2, .bool true, .bool od, .bool true, .int .i64 h] w fun e w' => e = .returned (.bool true) ∧ Grown w w' := by
  have e0 : (h == 0) = false := by simp; omega
  have d1 : decide (0 < h) = false := by simp; omega
  have d2 : decide (0 ≤ h) = false := by simp; omega
  have d3 : decide (h < 0) = true := by simp; omega
  cases od
  all_goals
    go_enter Try.func5, Try.ntmps5
    go_wp2
    go_ret
    exact ⟨rfl, Grown.refl _⟩

set_option maxHeartbeats 1000000 in
theorem m2_t_mid (od : Bool)  (w : World) : Calls Try.prog 5 #[.int .i64 2, .bool true, .bool od, .bool true, .int .i64 0] w fun e w' => e = .returned (.bool true) ∧ Grown w w' := by
  cases od
  all_goals
    go_enter Try.func5, Try.ntmps5
    go_wp2
    go_ret
    exact ⟨rfl, Grown.refl _⟩

set_option maxHeartbeats 1000000 in
theorem m2_t_hi (od : Bool) (h : Int) (hh : 0 < h) (w : World) : Calls Try.prog 5 #[.int .i64 2, .bool true, .bool od, .bool true, .int .i64 h] w fun e w' => e = .returned (.bool true) ∧ Grown w w' := by
  have e0 : (h == 0) = false := by simp; omega
  have d1 : decide (0 < h) = true := by simp; omega
  have d2 : decide (0 ≤ h) = true := by simp; omega
  have d3 : decide (h < 0) = false := by simp; omega
  cases od
  all_goals
    go_enter Try.func5, Try.ntmps5
    go_wp2
    go_ret
    exact ⟨rfl, Grown.refl _⟩

set_option maxHeartbeats 1000000 in
theorem m2_f_exact (od : Bool) (h : Int) (hh : h < 0) (w : World) : Calls Try.prog 5 #[.int .i64 2, .bool false, .bool od, .bool false, .int .i64 h] w fun e w' => e = .returned (.bool true) ∧ Grown w w' := by
  have e0 : (h == 0) = false := by simp; omega
  have d1 : decide (0 < h) = false := by simp; omega
  have d2 : decide (0 ≤ h) = false := by simp; omega
  have d3 : decide (h < 0) = true := by simp; omega
  cases od
  all_goals
    go_enter Try.func5, Try.ntmps5
    go_wp2
    go_ret
    exact ⟨rfl, Grown.refl _⟩

set_option maxHeartbeats 1000000 in
theorem m2_f_lo (od : Bool) (h : Int) (hh : h < 0) (w : World) : Calls Try.prog 5 #[.int .i64 2, .bool false, .bool od, .bool true, .int .i64 h] w fun e w' => e = .returned (.bool true) ∧ Grown w w' := by
  have e0 : (h == 0) = false := by simp; omega
  have d1 : decide (0 < h) = false := by simp; omega
  have d2 : decide (0 ≤ h) = false := by simp; omega
  have d3 : decide (h < 0) = true := by simp; omega
  cases od
  all_goals
    go_enter Try.func5, Try.ntmps5
    go_wp2
    go_ret
    exact ⟨rfl, Grown.refl _⟩

set_option maxHeartbeats 1000000 in
theorem m2_f_mid (od : Bool)  (w : World) : Calls Try.prog 5 #[.int .i64 2, .bool false, .bool od, .bool true, .int .i64 0] w fun e w' => e = .returned (.bool true) ∧ Grown w w' := by
  cases od
  all_goals
    go_enter Try.func5, Try.ntmps5
    go_wp2
    go_ret
    exact ⟨rfl, Grown.refl _⟩

set_option maxHeartbeats 1000000 in
theorem m2_f_hi (od : Bool) (h : Int) (hh : 0 < h) (w : World) : Calls Try.prog 5 #[.int .i64 2, .bool false, .bool od, .bool true, .int .i64 h] w fun e w' => e = .returned (.bool true) ∧ Grown w w' := by
  have e0 : (h == 0) = false := by simp; omega
  have d1 : decide (0 < h) = true := by simp; omega
  have d2 : decide (0 ≤ h) = true := by simp; omega
  have d3 : decide (h < 0) = false := by simp; omega
  cases od
  all_goals
    go_enter Try.func5, Try.ntmps5
    go_wp2
    go_ret
    exact ⟨rfl, Grown.refl _⟩

theorem walk (a0 : Int) (a1 : Bool) (a2 : Bool) (a3 : Bool) (a4 : Int) (w0 : (Lit.int .i64 a0).wf = true) (w4 : (Lit.int .i64 a4).wf = true) (w : World) :
    Calls Try.prog 5 #[.int .i64 a0, .bool a1, .bool a2, .bool a3, .int .i64 a4] w fun e w' => e = .returned (.bool true) ∧ Grown w w' := by
  by_cases h0 : a0 < 0
  · go_enter Try.func5, Try.ntmps5
    go_wp2
    go_ret
    exact ⟨rfl, Grown.refl _⟩
  · by_cases h2 : 2 < a0
    · go_enter Try.func5, Try.ntmps5
      go_wp2
      go_ret
      exact ⟨rfl, Grown.refl _⟩
    · have hm : a0 = 0 ∨ a0 = 1 ∨ a0 = 2 := by omega
      rcases Int.lt_trichotomy a4 0 with h4 | h4 | h4
      · rcases hm with rfl | rfl | rfl <;> cases a1 <;> cases a3
        · exact m0_f_exact a2 a4 h4 w
        · exact m0_f_lo a2 a4 h4 w
        · exact m0_t_exact a2 a4 h4 w
        · exact m0_t_lo a2 a4 h4 w
        · exact m1_f_exact a2 a4 h4 w
        · exact m1_f_lo a2 a4 h4 w
        · exact m1_t_exact a2 a4 h4 w
        · exact m1_t_lo a2 a4 h4 w
        · exact m2_f_exact a2 a4 h4 w
        · exact m2_f_lo a2 a4 h4 w
        · exact m2_t_exact a2 a4 h4 w
        · exact m2_t_lo a2 a4 h4 w
      · subst h4
        cases a3
        · rcases hm with rfl | rfl | rfl
          all_goals
            go_enter Try.func5, Try.ntmps5
            go_wp2
            go_ret
            exact ⟨rfl, Grown.refl _⟩
        · rcases hm with rfl | rfl | rfl <;> cases a1
          · exact m0_f_mid a2 w
          · exact m0_t_mid a2 w
          · exact m1_f_mid a2 w
          · exact m1_t_mid a2 w
          · exact m2_f_mid a2 w
          · exact m2_t_mid a2 w
      · cases a3
        · rcases hm with rfl | rfl | rfl
          all_goals
            go_enter Try.func5, Try.ntmps5
            go_wp2
            go_ret
            exact ⟨rfl, Grown.refl _⟩
        · rcases hm with rfl | rfl | rfl <;> cases a1
          · exact m0_f_hi a2 a4 h4 w
          · exact m0_t_hi a2 a4 h4 w
          · exact m1_f_hi a2 a4 h4 w
          · exact m1_t_hi a2 a4 h4 w
          · exact m2_f_hi a2 a4 h4 w
          · exact m2_t_hi a2 a4 h4 w

/-! ### THE ROW's STEP -/
set_option maxRecDepth 100000 in
theorem lifted (os : Os) (started : os.Started) (H : Type) (enc : TypeId × Value → H) :
    ReturnsInHanded {} Try.checked os 5 .any (Rows.fnRoundsAwayMatchesTenthsRoundingSpec.pre6 enc Try.prog Try.f5 Rows.fnRoundsAwayMatchesTenthsRoundingRow.domain false) (Rows.fnRoundsAwayMatchesTenthsRoundingSpec.post enc Try.prog Try.f5 false true false false) := by
  refine returnsInHanded_of_change (C := Try.checked) own started (by kernel_rfl) Try.func5
    (ChangeSpec.witness6 (enc := enc) (C := Try.checked) false ⟨#[], #[.int .i64 0, .bool false, .bool false, .bool false, .int .i64 0], []⟩ 8 (by kernel_rfl) (by kernel_rfl) (by kernel_rfl) (by kernel_rfl)) ?_
  intro W base args ds gs before hval0 hW hcnd _
  have hval : ∀ (j : Nat) t v, Try.f5.params[j]? = some t → args[j]? = some v → Value.okWide Try.prog W .any base t v := hval0
  have hW' := hW
  obtain ⟨p, q, hA0, hV, rfl, hfz, hnd⟩ := hW
  have hA : DataW.TrodAll enc Try.prog W 0 (fun _ => true) true Try.f5.params.toList args.toList ds p := hA0
  rw [Try.params5] at hA hval
  obtain ⟨v0, vs0, d0, ds0, p0, q0, hargs, rfl, rfl, h0, r0⟩ := trodAll_cons hA
  obtain ⟨v1, vs1, d1, ds1, p1, q1, rfl, rfl, rfl, h1, r1⟩ := trodAll_cons r0
  obtain ⟨v2, vs2, d2, ds2, p2, q2, rfl, rfl, rfl, h2, r2⟩ := trodAll_cons r1
  obtain ⟨v3, vs3, d3, ds3, p3, q3, rfl, rfl, rfl, h3, r3⟩ := trodAll_cons r2
  obtain ⟨v4, vs4, d4, ds4, p4, q4, rfl, rfl, rfl, h4, r4⟩ := trodAll_cons r3
  obtain ⟨rfl, rfl, rfl⟩ := trodAll_nil r4
  obtain rfl : args = #[v0, v1, v2, v3, v4] := by cases args; simp_all
  obtain ⟨rfl, rfl⟩ := trodVars_none hV
  obtain ⟨a0, rfl, rfl, rfl, w0⟩ := open_int Try.underlying3 (hval 0 3 v0 rfl rfl) h0
  obtain ⟨a1, rfl, rfl, rfl⟩ := open_bool Try.underlying4 (hval 1 4 v1 rfl rfl) h1
  obtain ⟨a2, rfl, rfl, rfl⟩ := open_bool Try.underlying4 (hval 2 4 v2 rfl rfl) h2
  obtain ⟨a3, rfl, rfl, rfl⟩ := open_bool Try.underlying4 (hval 3 4 v3 rfl rfl) h3
  obtain ⟨a4, rfl, rfl, rfl, w4⟩ := open_int Try.underlying3 (hval 4 3 v4 rfl rfl) h4
  clear hA0 hval0
  simp only [List.append_nil] at hW'
  refine (walk a0 a1 a2 a3 a4 w0 w4 W).mono fun e W' ⟨he, hg⟩ => ?_
  subst he
  exact ⟨_, rfl, post_of_same (pa := []) (pv := []) hW' (fun _ _ _ => (trodAll_cons_mk (shut_bool Try.underlying4 _) trodAll_mk0)) (fun sp _ => (trodAll_cons_mk (shut_int Try.underlying3 w0) (trodAll_cons_mk (shut_bool Try.underlying4 _) (trodAll_cons_mk (shut_bool Try.underlying4 _) (trodAll_cons_mk (shut_bool Try.underlying4 _) (trodAll_cons_mk (shut_int Try.underlying3 w4) trodAll_mk0)))))) (fun _ _ => rfl) rfl
    (hg.frame _) hg.2.1 (ok_one (by kernel_rfl) rfl (okWide_bool_mk Try.underlying4 _))⟩

theorem over : Rows.fnRoundsAwayMatchesTenthsRoundingRow.holds Try.pinned (OpenSpec.ofChange Rows.fnRoundsAwayMatchesTenthsRoundingSpec) :=
  OpenClaim.holds_of_wide 5 Try.f5 rfl rfl rfl rfl rfl rfl rfl ⟨rfl, rfl, rfl, rfl, rfl⟩ rfl rfl rfl rfl rfl (by kernel_rfl) Try.func5 (by kernel_rfl)
    (of_decide_eq_true (by kernel_rfl)) (by unfold Func.isWrapper; first | (rw [if_pos (by decide +kernel)]; kernel_rfl) | (rw [if_neg (by decide +kernel)]; exact ⟨rfl, rfl⟩))
    (fun os started H enc _ => lifted os started H enc)

/-- THE STATEMENT -/
theorem proved : Rows.FnRoundsAwayMatchesTenthsRoundingSaid :=
  over
#print axioms proved
end Go.Proofs.Qxb6602909a.fnRoundsAwayMatchesTenthsRounding
