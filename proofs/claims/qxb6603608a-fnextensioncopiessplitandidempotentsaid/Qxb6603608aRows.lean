/-
  No cell of these rows narrows 'for every input' (looked for: loops, veiled, ifaces, maps, wideKeys, modest, calm, conditions, laid).
  DERIVED. THE GIVEN ROWS OF THIS SEAT. 4 by the template 'for every input the law returns true; each argument reads behind the call as it read before'; 0 by the template 'total and deterministic' (their statements: Qxb6603608aTotals.lean).
  GIVEN WITH THE SEED: the statements are not yours to turn. If you find one false, say at which input.
  Laid BY PROGRAM, IN A SANDBOX (cutbox-rows.mjs): the forced cells as the released guide's own fill.sh prints them over the translation 78c8ebc32ed6f833… (all of the seat's roots in one cut). By AI agents, Wed Nov 11 2026. No macro, syntax, notation, axiom, sorry.
-/
import Derived.Test.Qxb6603608aChecked
import GoSem.Claim
import GoSem.ClaimJoined
import GoSem.ClaimMapViews
import Derived.JoinedTies
import Derived.KernelRfl
namespace Go.Proofs.Qxb6603608a
/- THE CELL 'sum', in the pinned program and in every row, IS THE sha256 OF THE DUMP (.gsa) THAT Qxb6603608aProg.lean LOADS. Nothing in Lean hashes anything: it is a label: what it is worth is what the hold of that sum in a sandbox is worth. -/
noncomputable def Try.pinned : Pinned := { name := "qxb6603608a", sum := "78c8ebc32ed6f833a5b04f188ee8a37d6acc1609675c089bf8af8e9482692288", checked := Try.checked }
namespace Rows
def none {H : Type} : Left H := { results := [], args := [] }

/-- 'zzlaws_root_b1.FnIsUniversalOneFormAtItsTag': WHATEVER THE INPUT: true; the input reads as it did. -/
def fnIsUniversalOneFormAtItsTagSpec : ChangeSpec := { name := "fnIsUniversalOneFormAtItsTag", fn := fun _ => fun
  | [d1, d2, d3, d4, d5, d6] => { results := [.lit (.bool true)], args := [d1, d2, d3, d4, d5, d6] }
  | _ => none }
def fnIsUniversalOneFormAtItsTagRow : OpenClaim := { program := "qxb6603608a", sum := "78c8ebc32ed6f833a5b04f188ee8a37d6acc1609675c089bf8af8e9482692288", func := "example.com/certform/certform/zzlaws_root_b1.FnIsUniversalOneFormAtItsTag", spec := "fnIsUniversalOneFormAtItsTag", apart := false }
def FnIsUniversalOneFormAtItsTagSaid : Prop := fnIsUniversalOneFormAtItsTagRow.holds Try.pinned (OpenSpec.ofChange fnIsUniversalOneFormAtItsTagSpec)

/-- ITS FALSE NEIGHBOUR: 'it returns false'. Refute it at one input. -/
def fnIsUniversalOneFormAtItsTagWrong : ChangeSpec := { name := "fnIsUniversalOneFormAtItsTag", fn := fun _ => fun
  | [d1, d2, d3, d4, d5, d6] => { results := [.lit (.bool false)], args := [d1, d2, d3, d4, d5, d6] }
  | _ => none }
def FnIsUniversalOneFormAtItsTagWrongFalsely : Prop := fnIsUniversalOneFormAtItsTagRow.holds Try.pinned (OpenSpec.ofChange fnIsUniversalOneFormAtItsTagWrong)

/-- 'zzlaws_root_b1.FnIsUniversalAcceptsOnlyItsOwnHeader': WHATEVER THE INPUT: true; the input reads as it did. -/
def fnIsUniversalAcceptsOnlyItsOwnHeaderSpec : ChangeSpec := { name := "fnIsUniversalAcceptsOnlyItsOwnHeader", fn := fun _ => fun
  | [d1, d2, d3, d4, d5, d6, d7, d8, d9] => { results := [.lit (.bool true)], args := [d1, d2, d3, d4, d5, d6, d7, d8, d9] }
  | _ => none }
def fnIsUniversalAcceptsOnlyItsOwnHeaderRow : OpenClaim := { program := "qxb6603608a", sum := "78c8ebc32ed6f833a5b04f188ee8a37d6acc1609675c089bf8af8e9482692288", func := "example.com/certform/certform/zzlaws_root_b1.FnIsUniversalAcceptsOnlyItsOwnHeader", spec := "fnIsUniversalAcceptsOnlyItsOwnHeader", apart := false }
def FnIsUniversalAcceptsOnlyItsOwnHeaderSaid : Prop := fnIsUniversalAcceptsOnlyItsOwnHeaderRow.holds Try.pinned (OpenSpec.ofChange fnIsUniversalAcceptsOnlyItsOwnHeaderSpec)

/-- ITS FALSE NEIGHBOUR: 'it returns false'. Refute it at one input. -/
def fnIsUniversalAcceptsOnlyItsOwnHeaderWrong : ChangeSpec := { name := "fnIsUniversalAcceptsOnlyItsOwnHeader", fn := fun _ => fun
  | [d1, d2, d3, d4, d5, d6, d7, d8, d9] => { results := [.lit (.bool false)], args := [d1, d2, d3, d4, d5, d6, d7, d8, d9] }
  | _ => none }
def FnIsUniversalAcceptsOnlyItsOwnHeaderWrongFalsely : Prop := fnIsUniversalAcceptsOnlyItsOwnHeaderRow.holds Try.pinned (OpenSpec.ofChange fnIsUniversalAcceptsOnlyItsOwnHeaderWrong)

/-- 'zzlaws_root_b1.FnExtensionCopiesAreTheMatchesInOrder': WHATEVER THE INPUT: true; the input reads as it did. -/
def fnExtensionCopiesAreTheMatchesInOrderSpec : ChangeSpec := { name := "fnExtensionCopiesAreTheMatchesInOrder", fn := fun _ => fun
  | [d1, d2] => { results := [.lit (.bool true)], args := [d1, d2] }
  | _ => none }
def fnExtensionCopiesAreTheMatchesInOrderRow : OpenClaim := { program := "qxb6603608a", sum := "78c8ebc32ed6f833a5b04f188ee8a37d6acc1609675c089bf8af8e9482692288", func := "example.com/certform/certform/zzlaws_root_b1.FnExtensionCopiesAreTheMatchesInOrder", spec := "fnExtensionCopiesAreTheMatchesInOrder", apart := false }
def FnExtensionCopiesAreTheMatchesInOrderSaid : Prop := fnExtensionCopiesAreTheMatchesInOrderRow.holds Try.pinned (OpenSpec.ofChange fnExtensionCopiesAreTheMatchesInOrderSpec)

/-- ITS FALSE NEIGHBOUR: 'it returns false'. Refute it at one input. -/
def fnExtensionCopiesAreTheMatchesInOrderWrong : ChangeSpec := { name := "fnExtensionCopiesAreTheMatchesInOrder", fn := fun _ => fun
  | [d1, d2] => { results := [.lit (.bool false)], args := [d1, d2] }
  | _ => none }
def FnExtensionCopiesAreTheMatchesInOrderWrongFalsely : Prop := fnExtensionCopiesAreTheMatchesInOrderRow.holds Try.pinned (OpenSpec.ofChange fnExtensionCopiesAreTheMatchesInOrderWrong)

/-- 'zzlaws_root_b1.FnExtensionCopiesSplitAndIdempotent': WHATEVER THE INPUT: true; the input reads as it did. -/
def fnExtensionCopiesSplitAndIdempotentSpec : ChangeSpec := { name := "fnExtensionCopiesSplitAndIdempotent", fn := fun _ => fun
  | [d1, d2, d3] => { results := [.lit (.bool true)], args := [d1, d2, d3] }
  | _ => none }
def fnExtensionCopiesSplitAndIdempotentRow : OpenClaim := { program := "qxb6603608a", sum := "78c8ebc32ed6f833a5b04f188ee8a37d6acc1609675c089bf8af8e9482692288", func := "example.com/certform/certform/zzlaws_root_b1.FnExtensionCopiesSplitAndIdempotent", spec := "fnExtensionCopiesSplitAndIdempotent", apart := false }
def FnExtensionCopiesSplitAndIdempotentSaid : Prop := fnExtensionCopiesSplitAndIdempotentRow.holds Try.pinned (OpenSpec.ofChange fnExtensionCopiesSplitAndIdempotentSpec)

/-- ITS FALSE NEIGHBOUR: 'it returns false'. Refute it at one input. -/
def fnExtensionCopiesSplitAndIdempotentWrong : ChangeSpec := { name := "fnExtensionCopiesSplitAndIdempotent", fn := fun _ => fun
  | [d1, d2, d3] => { results := [.lit (.bool false)], args := [d1, d2, d3] }
  | _ => none }
def FnExtensionCopiesSplitAndIdempotentWrongFalsely : Prop := fnExtensionCopiesSplitAndIdempotentRow.holds Try.pinned (OpenSpec.ofChange fnExtensionCopiesSplitAndIdempotentWrong)

end Rows
end Go.Proofs.Qxb6603608a
