/-
  No cell of these rows narrows 'for every input' (looked for: loops, veiled, ifaces, maps, wideKeys, modest, calm, conditions, laid).
  DERIVED. THE GIVEN ROWS OF THIS SEAT. 5 by the template 'for every input the law returns true; each argument reads behind the call as it read before'; 0 by the template 'total and deterministic' (their statements: Qxb6003330aTotals.lean).
  GIVEN WITH THE SEED: the statements are not yours to turn. If you find one false, say at which input.
  Laid BY PROGRAM, IN A SANDBOX (cutbox-rows.mjs): the forced cells as the released guide's own fill.sh prints them over the translation bed263867a35d7a2… (all of the seat's roots in one cut). By AI agents, Wed Nov 11 2026. No macro, syntax, notation, axiom, sorry.
-/
import Derived.Test.Qxb6003330aChecked
import GoSem.Claim
import GoSem.ClaimJoined
import GoSem.ClaimMapViews
import Derived.JoinedTies
import Derived.KernelRfl
namespace Go.Proofs.Qxb6003330a
/- THE CELL 'sum', in the pinned program and in every row, IS THE sha256 OF THE DUMP (.gsa) THAT Qxb6003330aProg.lean LOADS. Nothing in Lean hashes anything: it is a label: what it is worth is what the hold of that sum in a sandbox is worth. -/
noncomputable def Try.pinned : Pinned := { name := "qxb6003330a", sum := "bed263867a35d7a258b76b076fc243d61b27cd1f56fe227c5f336657315915c0", checked := Try.checked }
namespace Rows
def none {H : Type} : Left H := { results := [], args := [] }

/-- 'zzlaws_internal_ledger_g1.FnOutstandingConcatAdds': WHATEVER THE INPUT: true; the input reads as it did. -/
def fnOutstandingConcatAddsSpec : ChangeSpec := { name := "fnOutstandingConcatAdds", fn := fun _ => fun
  | [d1, d2] => { results := [.lit (.bool true)], args := [d1, d2] }
  | _ => none }
def fnOutstandingConcatAddsRow : OpenClaim := { program := "qxb6003330a", sum := "bed263867a35d7a258b76b076fc243d61b27cd1f56fe227c5f336657315915c0", func := "example.com/vestledger/vestledger/zzlaws_internal_ledger_g1.FnOutstandingConcatAdds", spec := "fnOutstandingConcatAdds", apart := false }
def FnOutstandingConcatAddsSaid : Prop := fnOutstandingConcatAddsRow.holds Try.pinned (OpenSpec.ofChange fnOutstandingConcatAddsSpec)

/-- ITS FALSE NEIGHBOUR: 'it returns false'. Refute it at one input. -/
def fnOutstandingConcatAddsWrong : ChangeSpec := { name := "fnOutstandingConcatAdds", fn := fun _ => fun
  | [d1, d2] => { results := [.lit (.bool false)], args := [d1, d2] }
  | _ => none }
def FnOutstandingConcatAddsWrongFalsely : Prop := fnOutstandingConcatAddsRow.holds Try.pinned (OpenSpec.ofChange fnOutstandingConcatAddsWrong)

/-- 'zzlaws_internal_ledger_g1.FnOutstandingOrderFree': WHATEVER THE INPUT: true; the input reads as it did. -/
def fnOutstandingOrderFreeSpec : ChangeSpec := { name := "fnOutstandingOrderFree", fn := fun _ => fun
  | [d1, d2] => { results := [.lit (.bool true)], args := [d1, d2] }
  | _ => none }
def fnOutstandingOrderFreeRow : OpenClaim := { program := "qxb6003330a", sum := "bed263867a35d7a258b76b076fc243d61b27cd1f56fe227c5f336657315915c0", func := "example.com/vestledger/vestledger/zzlaws_internal_ledger_g1.FnOutstandingOrderFree", spec := "fnOutstandingOrderFree", apart := false }
def FnOutstandingOrderFreeSaid : Prop := fnOutstandingOrderFreeRow.holds Try.pinned (OpenSpec.ofChange fnOutstandingOrderFreeSpec)

/-- ITS FALSE NEIGHBOUR: 'it returns false'. Refute it at one input. -/
def fnOutstandingOrderFreeWrong : ChangeSpec := { name := "fnOutstandingOrderFree", fn := fun _ => fun
  | [d1, d2] => { results := [.lit (.bool false)], args := [d1, d2] }
  | _ => none }
def FnOutstandingOrderFreeWrongFalsely : Prop := fnOutstandingOrderFreeRow.holds Try.pinned (OpenSpec.ofChange fnOutstandingOrderFreeWrong)

/-- 'zzlaws_internal_ledger_g1.FnOutstandingIgnoresOtherFields': WHATEVER THE INPUT: true; the input reads as it did. -/
def fnOutstandingIgnoresOtherFieldsSpec : ChangeSpec := { name := "fnOutstandingIgnoresOtherFields", fn := fun _ => fun
  | [d1, d2, d3, d4, d5, d6, d7, d8, d9] => { results := [.lit (.bool true)], args := [d1, d2, d3, d4, d5, d6, d7, d8, d9] }
  | _ => none }
def fnOutstandingIgnoresOtherFieldsRow : OpenClaim := { program := "qxb6003330a", sum := "bed263867a35d7a258b76b076fc243d61b27cd1f56fe227c5f336657315915c0", func := "example.com/vestledger/vestledger/zzlaws_internal_ledger_g1.FnOutstandingIgnoresOtherFields", spec := "fnOutstandingIgnoresOtherFields", apart := false }
def FnOutstandingIgnoresOtherFieldsSaid : Prop := fnOutstandingIgnoresOtherFieldsRow.holds Try.pinned (OpenSpec.ofChange fnOutstandingIgnoresOtherFieldsSpec)

/-- ITS FALSE NEIGHBOUR: 'it returns false'. Refute it at one input. -/
def fnOutstandingIgnoresOtherFieldsWrong : ChangeSpec := { name := "fnOutstandingIgnoresOtherFields", fn := fun _ => fun
  | [d1, d2, d3, d4, d5, d6, d7, d8, d9] => { results := [.lit (.bool false)], args := [d1, d2, d3, d4, d5, d6, d7, d8, d9] }
  | _ => none }
def FnOutstandingIgnoresOtherFieldsWrongFalsely : Prop := fnOutstandingIgnoresOtherFieldsRow.holds Try.pinned (OpenSpec.ofChange fnOutstandingIgnoresOtherFieldsWrong)

/-- 'zzlaws_internal_ledger_g1.FnOutstandingReleaseScript': WHATEVER THE INPUT: true; the input reads as it did. -/
def fnOutstandingReleaseScriptSpec : ChangeSpec := { name := "fnOutstandingReleaseScript", fn := fun _ => fun
  | [d1, d2, d3, d4] => { results := [.lit (.bool true)], args := [d1, d2, d3, d4] }
  | _ => none }
def fnOutstandingReleaseScriptRow : OpenClaim := { program := "qxb6003330a", sum := "bed263867a35d7a258b76b076fc243d61b27cd1f56fe227c5f336657315915c0", func := "example.com/vestledger/vestledger/zzlaws_internal_ledger_g1.FnOutstandingReleaseScript", spec := "fnOutstandingReleaseScript", apart := false }
def FnOutstandingReleaseScriptSaid : Prop := fnOutstandingReleaseScriptRow.holds Try.pinned (OpenSpec.ofChange fnOutstandingReleaseScriptSpec)

/-- ITS FALSE NEIGHBOUR: 'it returns false'. Refute it at one input. -/
def fnOutstandingReleaseScriptWrong : ChangeSpec := { name := "fnOutstandingReleaseScript", fn := fun _ => fun
  | [d1, d2, d3, d4] => { results := [.lit (.bool false)], args := [d1, d2, d3, d4] }
  | _ => none }
def FnOutstandingReleaseScriptWrongFalsely : Prop := fnOutstandingReleaseScriptRow.holds Try.pinned (OpenSpec.ofChange fnOutstandingReleaseScriptWrong)

/-- 'zzlaws_internal_ledger_g1.FnOutstandingBounds': WHATEVER THE INPUT: true; the input reads as it did. -/
def fnOutstandingBoundsSpec : ChangeSpec := { name := "fnOutstandingBounds", fn := fun _ => fun
  | [d] => { results := [.lit (.bool true)], args := [d] }
  | _ => none }
def fnOutstandingBoundsRow : OpenClaim := { program := "qxb6003330a", sum := "bed263867a35d7a258b76b076fc243d61b27cd1f56fe227c5f336657315915c0", func := "example.com/vestledger/vestledger/zzlaws_internal_ledger_g1.FnOutstandingBounds", spec := "fnOutstandingBounds", apart := false }
def FnOutstandingBoundsSaid : Prop := fnOutstandingBoundsRow.holds Try.pinned (OpenSpec.ofChange fnOutstandingBoundsSpec)

/-- ITS FALSE NEIGHBOUR: 'it returns false'. Refute it at one input. -/
def fnOutstandingBoundsWrong : ChangeSpec := { name := "fnOutstandingBounds", fn := fun _ => fun
  | [d] => { results := [.lit (.bool false)], args := [d] }
  | _ => none }
def FnOutstandingBoundsWrongFalsely : Prop := fnOutstandingBoundsRow.holds Try.pinned (OpenSpec.ofChange fnOutstandingBoundsWrong)

end Rows
end Go.Proofs.Qxb6003330a
