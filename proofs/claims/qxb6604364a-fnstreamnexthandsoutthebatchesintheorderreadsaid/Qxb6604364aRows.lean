/-
  No cell of these rows narrows 'for every input' (looked for: loops, veiled, ifaces, maps, wideKeys, modest, calm, conditions, laid).
  DERIVED. THE GIVEN ROWS OF THIS SEAT. 1 by the template 'for every input the law returns true; each argument reads behind the call as it read before'; 0 by the template 'total and deterministic' (their statements: Qxb6604364aTotals.lean).
  GIVEN WITH THE SEED: the statements are not yours to turn. If you find one false, say at which input.
  Laid BY PROGRAM, IN A SANDBOX (cutbox-rows.mjs): the forced cells as the released guide's own fill.sh prints them over the translation ce24d49fc233b42d… (all of the seat's roots in one cut). By AI agents, Wed Nov 11 2026. No macro, syntax, notation, axiom, sorry.
-/
import Derived.Test.Qxb6604364aChecked
import GoSem.Claim
import GoSem.ClaimJoined
import GoSem.ClaimMapViews
import Derived.JoinedTies
import Derived.KernelRfl
namespace Go.Proofs.Qxb6604364a
/- THE CELL 'sum', in the pinned program and in every row, IS THE sha256 OF THE DUMP (.gsa) THAT Qxb6604364aProg.lean LOADS. Nothing in Lean hashes anything: it is a label: what it is worth is what the hold of that sum in a sandbox is worth. -/
noncomputable def Try.pinned : Pinned := { name := "qxb6604364a", sum := "ce24d49fc233b42ded96a1eca9fce5f12168ffb6ba17402a3b2e83f61eaee068", checked := Try.checked }
namespace Rows
def none {H : Type} : Left H := { results := [], args := [] }

/-- 'zzlaws_pkg_jsonsum_b1.FnStreamNextHandsOutTheBatchesInTheOrderRead': WHATEVER THE INPUT: true; the input reads as it did. -/
def fnStreamNextHandsOutTheBatchesInTheOrderReadSpec : ChangeSpec := { name := "fnStreamNextHandsOutTheBatchesInTheOrderRead", fn := fun _ => fun
  | [d] => { results := [.lit (.bool true)], args := [d] }
  | _ => none }
def fnStreamNextHandsOutTheBatchesInTheOrderReadRow : OpenClaim := { program := "qxb6604364a", sum := "ce24d49fc233b42ded96a1eca9fce5f12168ffb6ba17402a3b2e83f61eaee068", func := "example.com/tallyroot/tallyroot/zzlaws_pkg_jsonsum_b1.FnStreamNextHandsOutTheBatchesInTheOrderRead", spec := "fnStreamNextHandsOutTheBatchesInTheOrderRead", unfollowed := true, recurses := true, apart := false }
def FnStreamNextHandsOutTheBatchesInTheOrderReadSaid : Prop := fnStreamNextHandsOutTheBatchesInTheOrderReadRow.holds Try.pinned (OpenSpec.ofChange fnStreamNextHandsOutTheBatchesInTheOrderReadSpec)

/-- ITS FALSE NEIGHBOUR: 'it returns false'. Refute it at one input. -/
def fnStreamNextHandsOutTheBatchesInTheOrderReadWrong : ChangeSpec := { name := "fnStreamNextHandsOutTheBatchesInTheOrderRead", fn := fun _ => fun
  | [d] => { results := [.lit (.bool false)], args := [d] }
  | _ => none }
def FnStreamNextHandsOutTheBatchesInTheOrderReadWrongFalsely : Prop := fnStreamNextHandsOutTheBatchesInTheOrderReadRow.holds Try.pinned (OpenSpec.ofChange fnStreamNextHandsOutTheBatchesInTheOrderReadWrong)

end Rows
end Go.Proofs.Qxb6604364a
