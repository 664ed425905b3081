/-
  No cell of these rows narrows 'for every input' (looked for: loops, veiled, ifaces, maps, wideKeys, modest, calm, conditions, laid).
  DERIVED. THE GIVEN ROWS OF THIS SEAT. 3 by the template 'for every input the law returns true; each argument reads behind the call as it read before'; 0 by the template 'total and deterministic' (their statements: Qxb6622052aTotals.lean).
  GIVEN WITH THE SEED: the statements are not yours to turn. If you find one false, say at which input.
  Laid BY PROGRAM, IN A SANDBOX (cutbox-rows.mjs): the forced cells as the released guide's own fill.sh prints them over the translation 5a72136190a40423… (all of the seat's roots in one cut). By AI agents, Wed Nov 11 2026. No macro, syntax, notation, axiom, sorry.
-/
import Derived.Test.Qxb6622052aChecked
import GoSem.Claim
import GoSem.ClaimJoined
import GoSem.ClaimMapViews
import Derived.JoinedTies
import Derived.KernelRfl
namespace Go.Proofs.Qxb6622052a
/- THE CELL 'sum', in the pinned program and in every row, IS THE sha256 OF THE DUMP (.gsa) THAT Qxb6622052aProg.lean LOADS. Nothing in Lean hashes anything: it is a label: what it is worth is what the hold of that sum in a sandbox is worth. -/
noncomputable def Try.pinned : Pinned := { name := "qxb6622052a", sum := "5a72136190a404236e09cbcdbd60cfced4a17fa6b640a58a22ec145b24d43bc1", checked := Try.checked }
namespace Rows
def none {H : Type} : Left H := { results := [], args := [] }

/-- 'zzlaws_internal_sip_b1.FnSplitOutsideModel': WHATEVER THE INPUT: true; the input reads as it did. -/
def fnSplitOutsideModelSpec : ChangeSpec := { name := "fnSplitOutsideModel", fn := fun _ => fun
  | [d1, d2, d3] => { results := [.lit (.bool true)], args := [d1, d2, d3] }
  | _ => none }
def fnSplitOutsideModelRow : OpenClaim := { program := "qxb6622052a", sum := "5a72136190a404236e09cbcdbd60cfced4a17fa6b640a58a22ec145b24d43bc1", func := "example.com/callproof/callproof/zzlaws_internal_sip_b1.FnSplitOutsideModel", spec := "fnSplitOutsideModel", apart := false }
def FnSplitOutsideModelSaid : Prop := fnSplitOutsideModelRow.holds Try.pinned (OpenSpec.ofChange fnSplitOutsideModelSpec)

/-- ITS FALSE NEIGHBOUR: 'it returns false'. Refute it at one input. -/
def fnSplitOutsideModelWrong : ChangeSpec := { name := "fnSplitOutsideModel", fn := fun _ => fun
  | [d1, d2, d3] => { results := [.lit (.bool false)], args := [d1, d2, d3] }
  | _ => none }
def FnSplitOutsideModelWrongFalsely : Prop := fnSplitOutsideModelRow.holds Try.pinned (OpenSpec.ofChange fnSplitOutsideModelWrong)

/-- 'zzlaws_internal_sip_b1.FnSplitOutsideRejoins': WHATEVER THE INPUT: true; the input reads as it did. -/
def fnSplitOutsideRejoinsSpec : ChangeSpec := { name := "fnSplitOutsideRejoins", fn := fun _ => fun
  | [d1, d2, d3] => { results := [.lit (.bool true)], args := [d1, d2, d3] }
  | _ => none }
def fnSplitOutsideRejoinsRow : OpenClaim := { program := "qxb6622052a", sum := "5a72136190a404236e09cbcdbd60cfced4a17fa6b640a58a22ec145b24d43bc1", func := "example.com/callproof/callproof/zzlaws_internal_sip_b1.FnSplitOutsideRejoins", spec := "fnSplitOutsideRejoins", apart := false }
def FnSplitOutsideRejoinsSaid : Prop := fnSplitOutsideRejoinsRow.holds Try.pinned (OpenSpec.ofChange fnSplitOutsideRejoinsSpec)

/-- ITS FALSE NEIGHBOUR: 'it returns false'. Refute it at one input. -/
def fnSplitOutsideRejoinsWrong : ChangeSpec := { name := "fnSplitOutsideRejoins", fn := fun _ => fun
  | [d1, d2, d3] => { results := [.lit (.bool false)], args := [d1, d2, d3] }
  | _ => none }
def FnSplitOutsideRejoinsWrongFalsely : Prop := fnSplitOutsideRejoinsRow.holds Try.pinned (OpenSpec.ofChange fnSplitOutsideRejoinsWrong)

/-- 'zzlaws_internal_sip_b1.FnSplitOutsidePrefix': WHATEVER THE INPUT: true; the input reads as it did. -/
def fnSplitOutsidePrefixSpec : ChangeSpec := { name := "fnSplitOutsidePrefix", fn := fun _ => fun
  | [d1, d2, d3, d4] => { results := [.lit (.bool true)], args := [d1, d2, d3, d4] }
  | _ => none }
def fnSplitOutsidePrefixRow : OpenClaim := { program := "qxb6622052a", sum := "5a72136190a404236e09cbcdbd60cfced4a17fa6b640a58a22ec145b24d43bc1", func := "example.com/callproof/callproof/zzlaws_internal_sip_b1.FnSplitOutsidePrefix", spec := "fnSplitOutsidePrefix", apart := false }
def FnSplitOutsidePrefixSaid : Prop := fnSplitOutsidePrefixRow.holds Try.pinned (OpenSpec.ofChange fnSplitOutsidePrefixSpec)

/-- ITS FALSE NEIGHBOUR: 'it returns false'. Refute it at one input. -/
def fnSplitOutsidePrefixWrong : ChangeSpec := { name := "fnSplitOutsidePrefix", fn := fun _ => fun
  | [d1, d2, d3, d4] => { results := [.lit (.bool false)], args := [d1, d2, d3, d4] }
  | _ => none }
def FnSplitOutsidePrefixWrongFalsely : Prop := fnSplitOutsidePrefixRow.holds Try.pinned (OpenSpec.ofChange fnSplitOutsidePrefixWrong)

end Rows
end Go.Proofs.Qxb6622052a
