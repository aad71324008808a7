/-
  NARROWER THAN 'FOR EVERY INPUT', by the rows' own cells (each row's printed sentence says how): FnDefaultsAtKeepsOrDropsEveryDefault: loops · FnDefaultsAtTwiceKeepsOnlyWhatBothKeep: loops.
  DERIVED. THE GIVEN ROWS OF THIS SEAT. 2 by the template 'for every input the law returns true; each argument reads behind the call as it read before'; 0 by the template 'total and deterministic' (their statements: Qxb6603619aTotals.lean).
  GIVEN WITH THE SEED: the statements are not yours to turn. If you find one false, say at which input.
  Laid BY PROGRAM, IN A SANDBOX (cutbox-rows.mjs): the forced cells as the released guide's own fill.sh prints them over the translation 1f7ad89e22871a58… (all of the seat's roots in one cut). By AI agents, Wed Nov 11 2026. No macro, syntax, notation, axiom, sorry.
-/
import Derived.Test.Qxb6603619aChecked
import GoSem.Claim
import GoSem.ClaimJoined
import GoSem.ClaimMapViews
import Derived.JoinedTies
import Derived.KernelRfl
namespace Go.Proofs.Qxb6603619a
/- THE CELL 'sum', in the pinned program and in every row, IS THE sha256 OF THE DUMP (.gsa) THAT Qxb6603619aProg.lean LOADS. Nothing in Lean hashes anything: it is a label: what it is worth is what the hold of that sum in a sandbox is worth. -/
noncomputable def Try.pinned : Pinned := { name := "qxb6603619a", sum := "1f7ad89e22871a5890b87ce0e01a0b9a117021fbef913322dc45db7e1311bf67", checked := Try.checked }
namespace Rows
def none {H : Type} : Left H := { results := [], args := [] }

/-- 'zzlaws_crd_b1.FnDefaultsAtKeepsOrDropsEveryDefault': WHATEVER THE INPUT: true; the input reads as it did. -/
def fnDefaultsAtKeepsOrDropsEveryDefaultSpec : ChangeSpec := { name := "fnDefaultsAtKeepsOrDropsEveryDefault", fn := fun _ => fun
  | [d1, d2, d3, d4, d5, d6, d7] => { results := [.lit (.bool true)], args := [d1, d2, d3, d4, d5, d6, d7] }
  | _ => none }
def fnDefaultsAtKeepsOrDropsEveryDefaultRow : OpenClaim := { program := "qxb6603619a", sum := "1f7ad89e22871a5890b87ce0e01a0b9a117021fbef913322dc45db7e1311bf67", func := "example.com/lossless-conversion/lossless-conversion/zzlaws_crd_b1.FnDefaultsAtKeepsOrDropsEveryDefault", spec := "fnDefaultsAtKeepsOrDropsEveryDefault", unfollowed := true, recurses := true, loops := true, apart := false }
def FnDefaultsAtKeepsOrDropsEveryDefaultSaid : Prop := fnDefaultsAtKeepsOrDropsEveryDefaultRow.holds Try.pinned (OpenSpec.ofChange fnDefaultsAtKeepsOrDropsEveryDefaultSpec)

/-- ITS FALSE NEIGHBOUR: 'it returns false'. Refute it at one input. -/
def fnDefaultsAtKeepsOrDropsEveryDefaultWrong : ChangeSpec := { name := "fnDefaultsAtKeepsOrDropsEveryDefault", fn := fun _ => fun
  | [d1, d2, d3, d4, d5, d6, d7] => { results := [.lit (.bool false)], args := [d1, d2, d3, d4, d5, d6, d7] }
  | _ => none }
def FnDefaultsAtKeepsOrDropsEveryDefaultWrongFalsely : Prop := fnDefaultsAtKeepsOrDropsEveryDefaultRow.holds Try.pinned (OpenSpec.ofChange fnDefaultsAtKeepsOrDropsEveryDefaultWrong)

/-- 'zzlaws_crd_b1.FnDefaultsAtTwiceKeepsOnlyWhatBothKeep': WHATEVER THE INPUT: true; the input reads as it did. -/
def fnDefaultsAtTwiceKeepsOnlyWhatBothKeepSpec : ChangeSpec := { name := "fnDefaultsAtTwiceKeepsOnlyWhatBothKeep", fn := fun _ => fun
  | [d1, d2, d3, d4, d5, d6, d7, d8] => { results := [.lit (.bool true)], args := [d1, d2, d3, d4, d5, d6, d7, d8] }
  | _ => none }
def fnDefaultsAtTwiceKeepsOnlyWhatBothKeepRow : OpenClaim := { program := "qxb6603619a", sum := "1f7ad89e22871a5890b87ce0e01a0b9a117021fbef913322dc45db7e1311bf67", func := "example.com/lossless-conversion/lossless-conversion/zzlaws_crd_b1.FnDefaultsAtTwiceKeepsOnlyWhatBothKeep", spec := "fnDefaultsAtTwiceKeepsOnlyWhatBothKeep", unfollowed := true, recurses := true, loops := true, apart := false }
def FnDefaultsAtTwiceKeepsOnlyWhatBothKeepSaid : Prop := fnDefaultsAtTwiceKeepsOnlyWhatBothKeepRow.holds Try.pinned (OpenSpec.ofChange fnDefaultsAtTwiceKeepsOnlyWhatBothKeepSpec)

/-- ITS FALSE NEIGHBOUR: 'it returns false'. Refute it at one input. -/
def fnDefaultsAtTwiceKeepsOnlyWhatBothKeepWrong : ChangeSpec := { name := "fnDefaultsAtTwiceKeepsOnlyWhatBothKeep", fn := fun _ => fun
  | [d1, d2, d3, d4, d5, d6, d7, d8] => { results := [.lit (.bool false)], args := [d1, d2, d3, d4, d5, d6, d7, d8] }
  | _ => none }
def FnDefaultsAtTwiceKeepsOnlyWhatBothKeepWrongFalsely : Prop := fnDefaultsAtTwiceKeepsOnlyWhatBothKeepRow.holds Try.pinned (OpenSpec.ofChange fnDefaultsAtTwiceKeepsOnlyWhatBothKeepWrong)

end Rows
end Go.Proofs.Qxb6603619a
