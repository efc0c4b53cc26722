/-
  No cell of these rows narrows 'for every input' (looked for: loops, veiled, ifaces, maps, wideKeys, modest, calm, conditions, laid).
  DERIVED. THE GIVEN ROWS OF THIS SEAT. 2 by the template 'for every input the law returns true; each argument reads behind the call as it read before'; 0 by the template 'total and deterministic' (their statements: YouaqwTotals.lean).
  GIVEN WITH THE SEED: the statements are not yours to turn. If you find one false, say at which input.
  Laid BY PROGRAM, IN A SANDBOX (cutbox-rows.mjs): the forced cells as the released guide's own fill.sh prints them over the translation 0e4d99994c910833… (all of the seat's roots in one cut). By AI agents, Wed Nov 11 2026. No macro, syntax, notation, axiom, sorry.
-/
import Derived.Test.YouaqwChecked
import GoSem.Claim
import GoSem.ClaimJoined
import GoSem.ClaimMapViews
import Derived.JoinedTies
import Derived.KernelRfl
namespace Go.Proofs.Youaqw
/- THE CELL 'sum', in the pinned program and in every row, IS THE sha256 OF THE DUMP (.gsa) THAT YouaqwProg.lean LOADS. Nothing in Lean hashes anything: it is a label: what it is worth is what the hold of that sum in a sandbox is worth. -/
noncomputable def Uaqg.pinned : Pinned := { name := "youaqw", sum := "0e4d99994c91083376a467cbc1bafccfaac71c57dfaa4d3dec86fcca9a481e0a", checked := Uaqg.checked }
namespace Rows
def none {H : Type} : Left H := { results := [], args := [] }

/-- 'zzlaws_root_b4.FnAbsExact': WHATEVER THE INPUT: true; the input reads as it did. -/
def fnAbsExactSpec : ChangeSpec := { name := "fnAbsExact", fn := fun _ => fun
  | [d] => { results := [.lit (.bool true)], args := [d] }
  | _ => none }
def fnAbsExactRow : OpenClaim := { program := "youaqw", sum := "0e4d99994c91083376a467cbc1bafccfaac71c57dfaa4d3dec86fcca9a481e0a", func := "github.com/jmespath/go-jmespath/zzlaws_root_b4.FnAbsExact", spec := "fnAbsExact", inPlace := ["math.Float64bits", "math.Float64frombits"], apart := false }
def FnAbsExactSaid : Prop := fnAbsExactRow.holds Uaqg.pinned (OpenSpec.ofChange fnAbsExactSpec)

/-- ITS FALSE NEIGHBOUR: 'it returns false'. Refute it at one input. -/
def fnAbsExactWrong : ChangeSpec := { name := "fnAbsExact", fn := fun _ => fun
  | [d] => { results := [.lit (.bool false)], args := [d] }
  | _ => none }
def FnAbsExactWrongFalsely : Prop := fnAbsExactRow.holds Uaqg.pinned (OpenSpec.ofChange fnAbsExactWrong)

/-- 'zzlaws_root_b4.FnAbsEvenIdempotent': WHATEVER THE INPUT: true; the input reads as it did. -/
def fnAbsEvenIdempotentSpec : ChangeSpec := { name := "fnAbsEvenIdempotent", fn := fun _ => fun
  | [d] => { results := [.lit (.bool true)], args := [d] }
  | _ => none }
def fnAbsEvenIdempotentRow : OpenClaim := { program := "youaqw", sum := "0e4d99994c91083376a467cbc1bafccfaac71c57dfaa4d3dec86fcca9a481e0a", func := "github.com/jmespath/go-jmespath/zzlaws_root_b4.FnAbsEvenIdempotent", spec := "fnAbsEvenIdempotent", inPlace := ["math.Float64bits", "math.Float64frombits"], apart := false }
def FnAbsEvenIdempotentSaid : Prop := fnAbsEvenIdempotentRow.holds Uaqg.pinned (OpenSpec.ofChange fnAbsEvenIdempotentSpec)

/-- ITS FALSE NEIGHBOUR: 'it returns false'. Refute it at one input. -/
def fnAbsEvenIdempotentWrong : ChangeSpec := { name := "fnAbsEvenIdempotent", fn := fun _ => fun
  | [d] => { results := [.lit (.bool false)], args := [d] }
  | _ => none }
def FnAbsEvenIdempotentWrongFalsely : Prop := fnAbsEvenIdempotentRow.holds Uaqg.pinned (OpenSpec.ofChange fnAbsEvenIdempotentWrong)

end Rows
end Go.Proofs.Youaqw
