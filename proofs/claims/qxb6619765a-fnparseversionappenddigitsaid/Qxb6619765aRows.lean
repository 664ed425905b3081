/-
  No cell of these rows narrows 'for every input' (looked for: loops, veiled, ifaces, maps, wideKeys, modest, calm, conditions, laid).
  DERIVED. THE GIVEN ROWS OF THIS SEAT. 2 by the template 'for every input the law returns true; each argument reads behind the call as it read before'; 0 by the template 'total and deterministic' (their statements: Qxb6619765aTotals.lean).
  GIVEN WITH THE SEED: the statements are not yours to turn. If you find one false, say at which input.
  Laid BY PROGRAM, IN A SANDBOX (cutbox-rows.mjs): the forced cells as the released guide's own fill.sh prints them over the translation 617dff81f36cc9b0… (all of the seat's roots in one cut). By AI agents, Wed Nov 11 2026. No macro, syntax, notation, axiom, sorry.
-/
import Derived.Test.Qxb6619765aChecked
import GoSem.Claim
import GoSem.ClaimJoined
import GoSem.ClaimMapViews
import Derived.JoinedTies
import Derived.KernelRfl
namespace Go.Proofs.Qxb6619765a
/- THE CELL 'sum', in the pinned program and in every row, IS THE sha256 OF THE DUMP (.gsa) THAT Qxb6619765aProg.lean LOADS. Nothing in Lean hashes anything: it is a label: what it is worth is what the hold of that sum in a sandbox is worth. -/
noncomputable def Try.pinned : Pinned := { name := "qxb6619765a", sum := "617dff81f36cc9b02980b90ee183ecda31c1176b3b6265067bece4521557aff7", checked := Try.checked }
namespace Rows
def none {H : Type} : Left H := { results := [], args := [] }

/-- 'zzlaws_boundary_b1.FnParseVersionIsCanonicalDecimal': WHATEVER THE INPUT: true; the input reads as it did. -/
def fnParseVersionIsCanonicalDecimalSpec : ChangeSpec := { name := "fnParseVersionIsCanonicalDecimal", fn := fun _ => fun
  | [d] => { results := [.lit (.bool true)], args := [d] }
  | _ => none }
def fnParseVersionIsCanonicalDecimalRow : OpenClaim := { program := "qxb6619765a", sum := "617dff81f36cc9b02980b90ee183ecda31c1176b3b6265067bece4521557aff7", func := "example.com/kerbstone/kerbstone/zzlaws_boundary_b1.FnParseVersionIsCanonicalDecimal", spec := "fnParseVersionIsCanonicalDecimal", apart := false }
def FnParseVersionIsCanonicalDecimalSaid : Prop := fnParseVersionIsCanonicalDecimalRow.holds Try.pinned (OpenSpec.ofChange fnParseVersionIsCanonicalDecimalSpec)

/-- ITS FALSE NEIGHBOUR: 'it returns false'. Refute it at one input. -/
def fnParseVersionIsCanonicalDecimalWrong : ChangeSpec := { name := "fnParseVersionIsCanonicalDecimal", fn := fun _ => fun
  | [d] => { results := [.lit (.bool false)], args := [d] }
  | _ => none }
def FnParseVersionIsCanonicalDecimalWrongFalsely : Prop := fnParseVersionIsCanonicalDecimalRow.holds Try.pinned (OpenSpec.ofChange fnParseVersionIsCanonicalDecimalWrong)

/-- 'zzlaws_boundary_b1.FnParseVersionAppendDigit': WHATEVER THE INPUT: true; the input reads as it did. -/
def fnParseVersionAppendDigitSpec : ChangeSpec := { name := "fnParseVersionAppendDigit", fn := fun _ => fun
  | [d1, d2] => { results := [.lit (.bool true)], args := [d1, d2] }
  | _ => none }
def fnParseVersionAppendDigitRow : OpenClaim := { program := "qxb6619765a", sum := "617dff81f36cc9b02980b90ee183ecda31c1176b3b6265067bece4521557aff7", func := "example.com/kerbstone/kerbstone/zzlaws_boundary_b1.FnParseVersionAppendDigit", spec := "fnParseVersionAppendDigit", apart := false }
def FnParseVersionAppendDigitSaid : Prop := fnParseVersionAppendDigitRow.holds Try.pinned (OpenSpec.ofChange fnParseVersionAppendDigitSpec)

/-- ITS FALSE NEIGHBOUR: 'it returns false'. Refute it at one input. -/
def fnParseVersionAppendDigitWrong : ChangeSpec := { name := "fnParseVersionAppendDigit", fn := fun _ => fun
  | [d1, d2] => { results := [.lit (.bool false)], args := [d1, d2] }
  | _ => none }
def FnParseVersionAppendDigitWrongFalsely : Prop := fnParseVersionAppendDigitRow.holds Try.pinned (OpenSpec.ofChange fnParseVersionAppendDigitWrong)

end Rows
end Go.Proofs.Qxb6619765a
