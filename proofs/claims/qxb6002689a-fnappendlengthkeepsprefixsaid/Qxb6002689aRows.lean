/-
  No cell of these rows narrows 'for every input' (looked for: loops, veiled, ifaces, maps, wideKeys, modest, calm, conditions, laid).
  DERIVED. THE GIVEN ROWS OF THIS SEAT. 6 by the template 'for every input the law returns true; each argument reads behind the call as it read before'; 0 by the template 'total and deterministic' (their statements: Qxb6002689aTotals.lean).
  GIVEN WITH THE SEED: the statements are not yours to turn. If you find one false, say at which input.
  Laid BY PROGRAM, IN A SANDBOX (cutbox-rows.mjs): the forced cells as the released guide's own fill.sh prints them over the translation 262c16a62429a50c… (all of the seat's roots in one cut). By AI agents, Wed Nov 11 2026. No macro, syntax, notation, axiom, sorry.
-/
import Derived.Test.Qxb6002689aChecked
import GoSem.Claim
import GoSem.ClaimJoined
import GoSem.ClaimMapViews
import Derived.JoinedTies
import Derived.KernelRfl
namespace Go.Proofs.Qxb6002689a
/- THE CELL 'sum', in the pinned program and in every row, IS THE sha256 OF THE DUMP (.gsa) THAT Qxb6002689aProg.lean LOADS. Nothing in Lean hashes anything: it is a label: what it is worth is what the hold of that sum in a sandbox is worth. -/
noncomputable def Try.pinned : Pinned := { name := "qxb6002689a", sum := "262c16a62429a50c8a8dd46606384eec628614f4f9e99afde929f3cc35603c3d", checked := Try.checked }
namespace Rows
def none {H : Type} : Left H := { results := [], args := [] }

/-- 'zzlaws_internal_der_b1.FnAppendLengthDecodesBack': WHATEVER THE INPUT: true; the input reads as it did. -/
def fnAppendLengthDecodesBackSpec : ChangeSpec := { name := "fnAppendLengthDecodesBack", fn := fun _ => fun
  | [d] => { results := [.lit (.bool true)], args := [d] }
  | _ => none }
def fnAppendLengthDecodesBackRow : OpenClaim := { program := "qxb6002689a", sum := "262c16a62429a50c8a8dd46606384eec628614f4f9e99afde929f3cc35603c3d", func := "example.com/curvewright/curvewright/zzlaws_internal_der_b1.FnAppendLengthDecodesBack", spec := "fnAppendLengthDecodesBack", apart := false }
def FnAppendLengthDecodesBackSaid : Prop := fnAppendLengthDecodesBackRow.holds Try.pinned (OpenSpec.ofChange fnAppendLengthDecodesBackSpec)

/-- ITS FALSE NEIGHBOUR: 'it returns false'. Refute it at one input. -/
def fnAppendLengthDecodesBackWrong : ChangeSpec := { name := "fnAppendLengthDecodesBack", fn := fun _ => fun
  | [d] => { results := [.lit (.bool false)], args := [d] }
  | _ => none }
def FnAppendLengthDecodesBackWrongFalsely : Prop := fnAppendLengthDecodesBackRow.holds Try.pinned (OpenSpec.ofChange fnAppendLengthDecodesBackWrong)

/-- 'zzlaws_internal_der_b1.FnAppendLengthKeepsPrefix': WHATEVER THE INPUT: true; the input reads as it did. -/
def fnAppendLengthKeepsPrefixSpec : ChangeSpec := { name := "fnAppendLengthKeepsPrefix", fn := fun _ => fun
  | [d1, d2] => { results := [.lit (.bool true)], args := [d1, d2] }
  | _ => none }
def fnAppendLengthKeepsPrefixRow : OpenClaim := { program := "qxb6002689a", sum := "262c16a62429a50c8a8dd46606384eec628614f4f9e99afde929f3cc35603c3d", func := "example.com/curvewright/curvewright/zzlaws_internal_der_b1.FnAppendLengthKeepsPrefix", spec := "fnAppendLengthKeepsPrefix", apart := false }
def FnAppendLengthKeepsPrefixSaid : Prop := fnAppendLengthKeepsPrefixRow.holds Try.pinned (OpenSpec.ofChange fnAppendLengthKeepsPrefixSpec)

/-- ITS FALSE NEIGHBOUR: 'it returns false'. Refute it at one input. -/
def fnAppendLengthKeepsPrefixWrong : ChangeSpec := { name := "fnAppendLengthKeepsPrefix", fn := fun _ => fun
  | [d1, d2] => { results := [.lit (.bool false)], args := [d1, d2] }
  | _ => none }
def FnAppendLengthKeepsPrefixWrongFalsely : Prop := fnAppendLengthKeepsPrefixRow.holds Try.pinned (OpenSpec.ofChange fnAppendLengthKeepsPrefixWrong)

/-- 'zzlaws_internal_der_b1.FnAppendLengthOrderPreserving': WHATEVER THE INPUT: true; the input reads as it did. -/
def fnAppendLengthOrderPreservingSpec : ChangeSpec := { name := "fnAppendLengthOrderPreserving", fn := fun _ => fun
  | [d1, d2] => { results := [.lit (.bool true)], args := [d1, d2] }
  | _ => none }
def fnAppendLengthOrderPreservingRow : OpenClaim := { program := "qxb6002689a", sum := "262c16a62429a50c8a8dd46606384eec628614f4f9e99afde929f3cc35603c3d", func := "example.com/curvewright/curvewright/zzlaws_internal_der_b1.FnAppendLengthOrderPreserving", spec := "fnAppendLengthOrderPreserving", apart := false }
def FnAppendLengthOrderPreservingSaid : Prop := fnAppendLengthOrderPreservingRow.holds Try.pinned (OpenSpec.ofChange fnAppendLengthOrderPreservingSpec)

/-- ITS FALSE NEIGHBOUR: 'it returns false'. Refute it at one input. -/
def fnAppendLengthOrderPreservingWrong : ChangeSpec := { name := "fnAppendLengthOrderPreserving", fn := fun _ => fun
  | [d1, d2] => { results := [.lit (.bool false)], args := [d1, d2] }
  | _ => none }
def FnAppendLengthOrderPreservingWrongFalsely : Prop := fnAppendLengthOrderPreservingRow.holds Try.pinned (OpenSpec.ofChange fnAppendLengthOrderPreservingWrong)

/-- 'zzlaws_internal_der_b1.FnAppendBase128DecodesBack': WHATEVER THE INPUT: true; the input reads as it did. -/
def fnAppendBase128DecodesBackSpec : ChangeSpec := { name := "fnAppendBase128DecodesBack", fn := fun _ => fun
  | [d] => { results := [.lit (.bool true)], args := [d] }
  | _ => none }
def fnAppendBase128DecodesBackRow : OpenClaim := { program := "qxb6002689a", sum := "262c16a62429a50c8a8dd46606384eec628614f4f9e99afde929f3cc35603c3d", func := "example.com/curvewright/curvewright/zzlaws_internal_der_b1.FnAppendBase128DecodesBack", spec := "fnAppendBase128DecodesBack", apart := false }
def FnAppendBase128DecodesBackSaid : Prop := fnAppendBase128DecodesBackRow.holds Try.pinned (OpenSpec.ofChange fnAppendBase128DecodesBackSpec)

/-- ITS FALSE NEIGHBOUR: 'it returns false'. Refute it at one input. -/
def fnAppendBase128DecodesBackWrong : ChangeSpec := { name := "fnAppendBase128DecodesBack", fn := fun _ => fun
  | [d] => { results := [.lit (.bool false)], args := [d] }
  | _ => none }
def FnAppendBase128DecodesBackWrongFalsely : Prop := fnAppendBase128DecodesBackRow.holds Try.pinned (OpenSpec.ofChange fnAppendBase128DecodesBackWrong)

/-- 'zzlaws_internal_der_b1.FnAppendBase128SelfDelimiting': WHATEVER THE INPUT: true; the input reads as it did. -/
def fnAppendBase128SelfDelimitingSpec : ChangeSpec := { name := "fnAppendBase128SelfDelimiting", fn := fun _ => fun
  | [d1, d2, d3] => { results := [.lit (.bool true)], args := [d1, d2, d3] }
  | _ => none }
def fnAppendBase128SelfDelimitingRow : OpenClaim := { program := "qxb6002689a", sum := "262c16a62429a50c8a8dd46606384eec628614f4f9e99afde929f3cc35603c3d", func := "example.com/curvewright/curvewright/zzlaws_internal_der_b1.FnAppendBase128SelfDelimiting", spec := "fnAppendBase128SelfDelimiting", apart := false }
def FnAppendBase128SelfDelimitingSaid : Prop := fnAppendBase128SelfDelimitingRow.holds Try.pinned (OpenSpec.ofChange fnAppendBase128SelfDelimitingSpec)

/-- ITS FALSE NEIGHBOUR: 'it returns false'. Refute it at one input. -/
def fnAppendBase128SelfDelimitingWrong : ChangeSpec := { name := "fnAppendBase128SelfDelimiting", fn := fun _ => fun
  | [d1, d2, d3] => { results := [.lit (.bool false)], args := [d1, d2, d3] }
  | _ => none }
def FnAppendBase128SelfDelimitingWrongFalsely : Prop := fnAppendBase128SelfDelimitingRow.holds Try.pinned (OpenSpec.ofChange fnAppendBase128SelfDelimitingWrong)

/-- 'zzlaws_internal_der_b1.FnAppendBase128OrderPreserving': WHATEVER THE INPUT: true; the input reads as it did. -/
def fnAppendBase128OrderPreservingSpec : ChangeSpec := { name := "fnAppendBase128OrderPreserving", fn := fun _ => fun
  | [d1, d2] => { results := [.lit (.bool true)], args := [d1, d2] }
  | _ => none }
def fnAppendBase128OrderPreservingRow : OpenClaim := { program := "qxb6002689a", sum := "262c16a62429a50c8a8dd46606384eec628614f4f9e99afde929f3cc35603c3d", func := "example.com/curvewright/curvewright/zzlaws_internal_der_b1.FnAppendBase128OrderPreserving", spec := "fnAppendBase128OrderPreserving", apart := false }
def FnAppendBase128OrderPreservingSaid : Prop := fnAppendBase128OrderPreservingRow.holds Try.pinned (OpenSpec.ofChange fnAppendBase128OrderPreservingSpec)

/-- ITS FALSE NEIGHBOUR: 'it returns false'. Refute it at one input. -/
def fnAppendBase128OrderPreservingWrong : ChangeSpec := { name := "fnAppendBase128OrderPreserving", fn := fun _ => fun
  | [d1, d2] => { results := [.lit (.bool false)], args := [d1, d2] }
  | _ => none }
def FnAppendBase128OrderPreservingWrongFalsely : Prop := fnAppendBase128OrderPreservingRow.holds Try.pinned (OpenSpec.ofChange fnAppendBase128OrderPreservingWrong)

end Rows
end Go.Proofs.Qxb6002689a
