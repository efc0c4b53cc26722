/-
  THE WALKS: math.Abs, jpfAbs, ZZjpfAbs, zzIsNaN, zzAbsModel: what each call returns and what it does to the world.
-/
import Derived.Test.YouaqwRows
import Derived.Test.YouaqwPlain
import Derived.WalkKit
import Derived.WalkSpells
import Derived.WalkLawsBesides
import Derived.Laws.Externs
import Derived.RowKit3
namespace Go.Proofs.Youaqw
open Go.RowKit

/-! ### The model's two entries, and the type assertions: facts of this program -/
theorem bits64 (b : Nat) (w : World) : (callFunc 11 #[.float .f64 b]).run Uaqg.prog w = .ok (.value (.int .u64 b)) w :=
  run_callFunc_extern Uaqg.func11 (by kernel_rfl) (by kernel_rfl) (by kernel_rfl) (e := Extern.MathFloatBits.float64bits) (by kernel_rfl) _ w
theorem frombits64 (n : Int) (w : World) : (callFunc 10 #[.int .u64 n]).run Uaqg.prog w = .ok (.value (.float .f64 n.toNat)) w :=
  run_callFunc_extern Uaqg.func10 (by kernel_rfl) (by kernel_rfl) (by kernel_rfl) (e := Extern.MathFloatBits.float64frombits) (by kernel_rfl) _ w

set_option maxHeartbeats 400000 in
/-- math.Abs. -/
theorem abs_any (b : Nat) (h : b < 18446744073709551616) (w : World) :
    Calls Uaqg.prog 9 #[.float .f64 b] w fun e w' => e = .returned (.float .f64 (Plain.ab b)) ∧ w' = w := by
  have h1 := fun w => bits64 b w
  have h2 : ∀ w, (callFunc 10 #[.int .u64 (bits .andNot .u64 (b : Int) 9223372036854775808)]).run Uaqg.prog w = .ok (.value (.float .f64 (Plain.ab b))) w := by
    intro w; rw [Plain.abs_bits b h, frombits64]; rfl
  clear h
  go_enter Uaqg.func9, Uaqg.ntmps9
  go_wp2
  go_ret
  exact ⟨rfl, rfl⟩

theorem as_float (v : Value) (w : World) : (Instr.typeAssert (.iface 22 v) 20 22 false).run Uaqg.prog w = .ok v w := by kernel_rfl
theorem as_float_ok (v : Value) (w : World) : (Instr.typeAssert (.iface 22 v) 20 22 true).run Uaqg.prog w = .ok (.tuple #[v, .bool true]) w := by kernel_rfl

set_option maxHeartbeats 400000 in
/-- jpfAbs, at a slice of one float64. -/
theorem jabs_any (b : Nat) (h : b < 18446744073709551616) (k : Nat) (w : World) (hc : w.cell? ⟨k, 0, none⟩ = some (.iface 22 (.float .f64 b))) :
    Calls Uaqg.prog 8 #[.slice (some ⟨k, 0, none⟩) 1 1] w fun e w' => e = .returned (.tuple #[.iface 22 (.float .f64 (Plain.ab b)), .nilIface]) ∧ w' = w := by
  have h1 := as_float
  go_enter Uaqg.func8, Uaqg.ntmps8
  go_wp2_with (go_at_call 9; refine (abs_any b h _).mono ?_; rintro e w' ⟨rfl, rfl⟩)
  go_ret2
  exact ⟨rfl, rfl⟩

theorem grown_trans {A B C : World} (h : Grown A B) (g : Grown B C) : Grown A C := by
  refine ⟨World.keptBut_trans h.1 ?_, fun a => (g.2.1 a).trans (h.2.1 a), Nat.le_trans h.2.2 g.2.2⟩
  exact g.1

set_option maxHeartbeats 400000 in
/-- ZZjpfAbs. -/
theorem zabs_any (b : Nat) (h : b < 18446744073709551616) (w : World) :
    Calls Uaqg.prog 5 #[.float .f64 b] w fun e w' => e = .returned (.tuple #[.float .f64 (Plain.ab b), .bool true]) ∧ Grown w w' := by
  have h1 := as_float_ok
  go_enter Uaqg.func5, Uaqg.ntmps5
  go_wp2_with (go_at_call 8; refine (jabs_any b h _ _ ?_).mono ?_)
  · simp [go_sem]
  rintro e w' ⟨rfl, rfl⟩
  go_wp2_with fail
  go_region
  go_wp2
  go_ret2
  exact ⟨rfl, by repeat (first | exact Grown.refl _ | apply Grown.drew | apply Grown.alloc)⟩

set_option maxHeartbeats 400000 in
/-- zzIsNaN. -/
theorem isnan_any (b : Nat) (w : World) :
    Calls Uaqg.prog 6 #[.float .f64 b] w fun e w' => e = .returned (.bool (Plain.nan b)) ∧ w' = w := by
  have h1 := Plain.nan_order b
  go_enter Uaqg.func6, Uaqg.ntmps6
  go_wp2
  go_ret
  exact ⟨rfl, rfl⟩

theorem neg_float (b : Nat) (w : World) : (Op.unary .neg (.float .f64 b)).run Uaqg.prog w = .ok (.float .f64 (Plain.ng b)) w := rfl

set_option maxHeartbeats 400000 in
/-- zzAbsModel. -/
theorem model_any (b : Nat) (w : World) :
    Calls Uaqg.prog 7 #[.float .f64 b] w fun e w' => e = .returned (.float .f64 (Plain.model b)) ∧ w' = w := by
  have h1 := neg_float
  cases hl : FloatKind.f64.format.order b 0 == some .lt
  · cases he : FloatKind.f64.format.order b 0 == some .eq
    · have hm : Hid (Plain.model b = b) := by unfold Plain.model; rw [hl, he]; rfl
      go_enter Uaqg.func7, Uaqg.ntmps7
      go_wp2
      go_ret
      exact ⟨by rw [hm.out]; rfl, rfl⟩
    · have hm : Hid (Plain.model b = 0) := by unfold Plain.model; rw [hl, he]; rfl
      go_enter Uaqg.func7, Uaqg.ntmps7
      go_wp2
      go_ret
      exact ⟨by rw [hm.out]; rfl, rfl⟩
  · have hm : Hid (Plain.model b = Plain.ng b) := by unfold Plain.model; rw [hl]; rfl
    go_enter Uaqg.func7, Uaqg.ntmps7
    go_wp2
    go_ret
    exact ⟨by rw [hm.out]; rfl, rfl⟩

end Go.Proofs.Youaqw
