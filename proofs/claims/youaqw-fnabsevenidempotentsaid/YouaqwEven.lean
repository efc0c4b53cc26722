/-
  THE LAW FnAbsEvenIdempotent: |x| is even and idempotent, and it bounds x and -x from above.
-/
import Derived.Test.YouaqwWalksA
import Derived.ProofKit
namespace Go.Proofs.Youaqw
open Go.ChangeShapes Go.WideShapes Go.ChangeAt Go.RowKit

set_option maxHeartbeats 400000 in
theorem even_nan (b : Nat) (hb : b < 18446744073709551616) (hn : Plain.nan b = true) (w : World) :
    Calls Uaqg.prog 4 #[.float .f64 b] w fun e w' => e = .returned (.bool true) ∧ Grown w w' := by
  have h1 := neg_float
  have h2 : Plain.nan (Plain.ab b) = true := by rw [Plain.nan_ab]; exact hn
  go_enter Uaqg.func4, Uaqg.ntmps4
  go_wp2_with fail
  refine (zabs_any b hb _).mono ?_
  rintro e w1 ⟨rfl, g1⟩
  go_wp2_with fail
  refine (zabs_any (Plain.ng b) (Plain.ng_lt b hb) _).mono ?_
  rintro e w2 ⟨rfl, g2⟩
  rw [Plain.ab_ng]
  go_wp2_with fail
  refine (zabs_any (Plain.ab b) (Plain.ab_lt b) _).mono ?_
  rintro e w3 ⟨rfl, g3⟩
  rw [Plain.ab_ab]
  go_wp2_with (go_at_call 6; refine (isnan_any _ _).mono ?_; rintro e w' ⟨rfl, rfl⟩)
  go_ret
  exact ⟨rfl, grown_trans (grown_trans g1 g2) g3⟩

set_option maxHeartbeats 400000 in
theorem even_num (b : Nat) (hb : b < 18446744073709551616) (hn : Plain.nan b = false) (w : World) :
    Calls Uaqg.prog 4 #[.float .f64 b] w fun e w' => e = .returned (.bool true) ∧ Grown w w' := by
  have h1 := neg_float
  have h2 := Plain.ab_eq b hn
  have h3 := Plain.ab_ge_zero b hn
  have h4 := Plain.ab_ge b b hn rfl
  have h5 := Plain.ab_ge b (Plain.ng b) hn (Plain.ab_ng b)
  go_enter Uaqg.func4, Uaqg.ntmps4
  go_wp2_with fail
  refine (zabs_any b hb _).mono ?_
  rintro e w1 ⟨rfl, g1⟩
  go_wp2_with fail
  refine (zabs_any (Plain.ng b) (Plain.ng_lt b hb) _).mono ?_
  rintro e w2 ⟨rfl, g2⟩
  rw [Plain.ab_ng]
  go_wp2_with fail
  refine (zabs_any (Plain.ab b) (Plain.ab_lt b) _).mono ?_
  rintro e w3 ⟨rfl, g3⟩
  rw [Plain.ab_ab]
  go_wp2_with (go_at_call 6; refine (isnan_any _ _).mono ?_; rintro e w' ⟨rfl, rfl⟩)
  go_ret
  exact ⟨rfl, grown_trans (grown_trans g1 g2) g3⟩

theorem even_walk (b : Nat) (hb : b < 18446744073709551616) (w : World) :
    Calls Uaqg.prog 4 #[.float .f64 b] w fun e w' => e = .returned (.bool true) ∧ Grown w w' := by
  cases hn : Plain.nan b
  · exact even_num b hb hn w
  · exact even_nan b hb hn w

/-- What 'open_float' hands over of a float64: its bits fit a word. -/
theorem even_word {b : Nat} (h : (Lit.float .f64 b).wf = true) : b < 18446744073709551616 := by
  have h2 : b < 2 ^ 64 := by simpa [Lit.wf] using h
  exact h2

theorem even_own : ownKnob Uaqg.prog.godebug = none := by kernel_rfl

set_option maxRecDepth 100000 in
theorem even_lifted (os : Os) (started : os.Started) (H : Type) (enc : TypeId × Value → H) :
    ReturnsInHanded {} Uaqg.checked os 4 .any (Rows.fnAbsEvenIdempotentSpec.pre6 enc Uaqg.prog Uaqg.f4 Rows.fnAbsEvenIdempotentRow.domain false) (Rows.fnAbsEvenIdempotentSpec.post enc Uaqg.prog Uaqg.f4 false true false false) := by
  refine returnsInHanded_of_change (C := Uaqg.checked) even_own started (by kernel_rfl) Uaqg.func4
    (ChangeSpec.witness6 (enc := enc) (C := Uaqg.checked) false ⟨#[], #[.float .f64 0], []⟩ 8 (by kernel_rfl) (by kernel_rfl) (by kernel_rfl) (by kernel_rfl)) ?_
  intro W base args ds gs before hval0 hW hcnd _
  have hval : ∀ (j : Nat) t v, Uaqg.f4.params[j]? = some t → args[j]? = some v → Value.okWide Uaqg.prog W .any base t v := hval0
  have hW' := hW
  obtain ⟨p, q, hA0, hV, rfl, hfz, hnd⟩ := hW
  have hA : DataW.TrodAll enc Uaqg.prog W 0 (fun _ => true) true Uaqg.f4.params.toList args.toList ds p := hA0
  rw [Uaqg.params4] at hA hval
  obtain ⟨v0, d0, rfl, rfl, h0⟩ := trodAll_one hA
  obtain ⟨rfl, rfl⟩ := trodVars_none hV
  obtain ⟨b, rfl, rfl, rfl, wb⟩ := open_float Uaqg.underlying22 (hval 0 22 v0 rfl rfl) h0
  clear hA0 hval0
  simp only [List.append_nil] at hW'
  refine (even_walk b (even_word wb) W).mono fun e W' ⟨he, hg⟩ => ?_
  subst he
  exact ⟨_, rfl, post_of_same (pa := []) (pv := []) hW' (fun _ _ _ => trodAll_mk1 (shut_bool Uaqg.underlying4 _)) (fun sp _ => trodAll_mk1 (shut_float Uaqg.underlying22 wb)) (fun _ _ => rfl) rfl
    (hg.frame _) hg.2.1 (ok_one (by kernel_rfl) rfl (okWide_bool_mk Uaqg.underlying4 _))⟩

/-- THE STATEMENT. -/
theorem fnAbsEvenIdempotent_holds : Rows.FnAbsEvenIdempotentSaid :=
  OpenClaim.holds_of_wide 4 Uaqg.f4 rfl rfl rfl rfl rfl rfl rfl ⟨rfl, rfl, rfl, rfl, rfl⟩ rfl rfl rfl rfl rfl (by kernel_rfl) Uaqg.func4 (by kernel_rfl)
    (of_decide_eq_true (by kernel_rfl)) (by unfold Func.isWrapper; first | (rw [if_pos (by decide +kernel)]; kernel_rfl) | (rw [if_neg (by decide +kernel)]; exact ⟨rfl, rfl⟩))
    (fun os started H enc _ => even_lifted os started H enc)

end Go.Proofs.Youaqw
