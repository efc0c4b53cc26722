/-
  THE LAW FnAbsExact: |x| is what the sign model answers, a NaN at a NaN, and never the negative zero.
-/
import Derived.Test.YouaqwWalksA
import Derived.ProofKit
namespace Go.Proofs.Youaqw
open Go.ChangeShapes Go.WideShapes Go.ChangeAt Go.RowKit

set_option maxHeartbeats 400000 in
theorem exact_nan (b : Nat) (hb : b < 18446744073709551616) (hn : Plain.nan b = true) (w : World) :
    Calls Uaqg.prog 3 #[.float .f64 b] w fun e w' => e = .returned (.bool true) ∧ Grown w w' := by
  have h2 : Plain.nan (Plain.ab b) = true := by rw [Plain.nan_ab]; exact hn
  go_enter Uaqg.func3, Uaqg.ntmps3
  go_wp2_with fail
  refine (zabs_any b hb _).mono ?_
  rintro e w1 ⟨rfl, g1⟩
  go_wp2_with (go_at_call 6; refine (isnan_any _ _).mono ?_; rintro e w' ⟨rfl, rfl⟩)
  go_ret
  exact ⟨rfl, g1⟩

set_option maxHeartbeats 400000 in
/-- At a number that is not nought: the guard '|x| == 0' says no. -/
theorem exact_far (b : Nat) (hb : b < 18446744073709551616) (hn : Plain.nan b = false) (hz : (FloatKind.f64.format.order (Plain.ab b) 0 == some .eq) = false) (w : World) :
    Calls Uaqg.prog 3 #[.float .f64 b] w fun e w' => e = .returned (.bool true) ∧ Grown w w' := by
  have h2 := Plain.ab_model b hn
  go_enter Uaqg.func3, Uaqg.ntmps3
  go_wp2_with fail
  refine (zabs_any b hb _).mono ?_
  rintro e w1 ⟨rfl, g1⟩
  go_wp2_with (first | (go_at_call 6; refine (isnan_any _ _).mono ?_; rintro e w' ⟨rfl, rfl⟩) | (go_at_call 7; refine (model_any _ _).mono ?_; rintro e w' ⟨rfl, rfl⟩))
  go_ret
  exact ⟨rfl, g1⟩

/-- '1/|x|' where |x| is the word 0. -/
theorem one_over (a : Nat) (ha : a = 0) (w : World) : (binOp .quo 22 (.float .f64 4607182418800017408) (.float .f64 a)).run Uaqg.prog w = .ok (.float .f64 9218868437227405312) w := by
  subst ha
  exact run_float_arith w .quo 22 .f64 4607182418800017408 0 9218868437227405312 Plain.one_over_zero

set_option maxHeartbeats 400000 in
/-- At both zeros: '1/|x|' is the positive infinity. -/
theorem exact_zero (b : Nat) (hb : b < 18446744073709551616) (hn : Plain.nan b = false) (hz : (FloatKind.f64.format.order (Plain.ab b) 0 == some .eq) = true)
    (hq : ∀ w, (binOp .quo 22 (.float .f64 4607182418800017408) (.float .f64 (Plain.ab b))).run Uaqg.prog w = .ok (.float .f64 9218868437227405312) w) (w : World) :
    Calls Uaqg.prog 3 #[.float .f64 b] w fun e w' => e = .returned (.bool true) ∧ Grown w w' := by
  have h2 := Plain.ab_model b hn
  have h3 := Plain.inf_not_lt
  go_enter Uaqg.func3, Uaqg.ntmps3
  go_wp2_with fail
  refine (zabs_any b hb _).mono ?_
  rintro e w1 ⟨rfl, g1⟩
  go_wp2_with (first | (go_at_call 6; refine (isnan_any _ _).mono ?_; rintro e w' ⟨rfl, rfl⟩) | (go_at_call 7; refine (model_any _ _).mono ?_; rintro e w' ⟨rfl, rfl⟩))
  go_ret
  exact ⟨rfl, g1⟩

theorem exact_num (b : Nat) (hb : b < 18446744073709551616) (hn : Plain.nan b = false) (w : World) :
    Calls Uaqg.prog 3 #[.float .f64 b] w fun e w' => e = .returned (.bool true) ∧ Grown w w' := by
  have ht := Plain.ab_zero_test b hn
  by_cases h0 : Plain.ab b = 0
  · exact exact_zero b hb hn (ht.trans (decide_eq_true h0)) (one_over _ h0) w
  · exact exact_far b hb hn (ht.trans (decide_eq_false h0)) w

theorem exact_walk (b : Nat) (hb : b < 18446744073709551616) (w : World) :
    Calls Uaqg.prog 3 #[.float .f64 b] w fun e w' => e = .returned (.bool true) ∧ Grown w w' := by
  cases hn : Plain.nan b
  · exact exact_num b hb hn w
  · exact exact_nan b hb hn w

/-- What 'open_float' hands over of a float64: its bits fit a word. -/
theorem exact_word {b : Nat} (h : (Lit.float .f64 b).wf = true) : b < 18446744073709551616 := by
  have h2 : b < 2 ^ 64 := by simpa [Lit.wf] using h
  exact h2

theorem exact_own : ownKnob Uaqg.prog.godebug = none := by kernel_rfl

set_option maxRecDepth 100000 in
theorem exact_lifted (os : Os) (started : os.Started) (H : Type) (enc : TypeId × Value → H) :
    ReturnsInHanded {} Uaqg.checked os 3 .any (Rows.fnAbsExactSpec.pre6 enc Uaqg.prog Uaqg.f3 Rows.fnAbsExactRow.domain false) (Rows.fnAbsExactSpec.post enc Uaqg.prog Uaqg.f3 false true false false) := by
  refine returnsInHanded_of_change (C := Uaqg.checked) exact_own started (by kernel_rfl) Uaqg.func3
    (ChangeSpec.witness6 (enc := enc) (C := Uaqg.checked) false ⟨#[], #[.float .f64 0], []⟩ 8 (by kernel_rfl) (by kernel_rfl) (by kernel_rfl) (by kernel_rfl)) ?_
  intro W base args ds gs before hval0 hW hcnd _
  have hval : ∀ (j : Nat) t v, Uaqg.f3.params[j]? = some t → args[j]? = some v → Value.okWide Uaqg.prog W .any base t v := hval0
  have hW' := hW
  obtain ⟨p, q, hA0, hV, rfl, hfz, hnd⟩ := hW
  have hA : DataW.TrodAll enc Uaqg.prog W 0 (fun _ => true) true Uaqg.f3.params.toList args.toList ds p := hA0
  rw [Uaqg.params3] at hA hval
  obtain ⟨v0, d0, rfl, rfl, h0⟩ := trodAll_one hA
  obtain ⟨rfl, rfl⟩ := trodVars_none hV
  obtain ⟨b, rfl, rfl, rfl, wb⟩ := open_float Uaqg.underlying22 (hval 0 22 v0 rfl rfl) h0
  clear hA0 hval0
  simp only [List.append_nil] at hW'
  refine (exact_walk b (exact_word wb) W).mono fun e W' ⟨he, hg⟩ => ?_
  subst he
  exact ⟨_, rfl, post_of_same (pa := []) (pv := []) hW' (fun _ _ _ => trodAll_mk1 (shut_bool Uaqg.underlying4 _)) (fun sp _ => trodAll_mk1 (shut_float Uaqg.underlying22 wb)) (fun _ _ => rfl) rfl
    (hg.frame _) hg.2.1 (ok_one (by kernel_rfl) rfl (okWide_bool_mk Uaqg.underlying4 _))⟩

/-- THE STATEMENT. -/
theorem fnAbsExact_holds : Rows.FnAbsExactSaid :=
  OpenClaim.holds_of_wide 3 Uaqg.f3 rfl rfl rfl rfl rfl rfl rfl ⟨rfl, rfl, rfl, rfl, rfl⟩ rfl rfl rfl rfl rfl (by kernel_rfl) Uaqg.func3 (by kernel_rfl)
    (of_decide_eq_true (by kernel_rfl)) (by unfold Func.isWrapper; first | (rw [if_pos (by decide +kernel)]; kernel_rfl) | (rw [if_neg (by decide +kernel)]; exact ⟨rfl, rfl⟩))
    (fun os started H enc _ => exact_lifted os started H enc)

end Go.Proofs.Youaqw
