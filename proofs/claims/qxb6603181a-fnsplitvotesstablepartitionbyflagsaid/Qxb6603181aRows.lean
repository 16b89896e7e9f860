/-
  No cell of these rows narrows 'for every input' (looked for: loops, veiled, ifaces, maps, wideKeys, modest, calm, conditions, laid).
  DERIVED. THE GIVEN ROWS OF THIS SEAT. 3 by the template 'for every input the law returns true; each argument reads behind the call as it read before'; 0 by the template 'total and deterministic' (their statements: Qxb6603181aTotals.lean).
  GIVEN WITH THE SEED: the statements are not yours to turn. If you find one false, say at which input.
  Laid BY PROGRAM, IN A SANDBOX (cutbox-rows.mjs): the forced cells as the released guide's own fill.sh prints them over the translation fb94d1da8e133a99… (all of the seat's roots in one cut). By AI agents, Wed Nov 11 2026. No macro, syntax, notation, axiom, sorry.
-/
import Derived.Test.Qxb6603181aChecked
import GoSem.Claim
import GoSem.ClaimJoined
import GoSem.ClaimMapViews
import Derived.JoinedTies
import Derived.KernelRfl
namespace Go.Proofs.Qxb6603181a
/- THE CELL 'sum', in the pinned program and in every row, IS THE sha256 OF THE DUMP (.gsa) THAT Qxb6603181aProg.lean LOADS. Nothing in Lean hashes anything: it is a label: what it is worth is what the hold of that sum in a sandbox is worth. -/
noncomputable def Try.pinned : Pinned := { name := "qxb6603181a", sum := "fb94d1da8e133a99da1d5ce5117c777cfdb1311152fd39f908fddcef4cfe62df", checked := Try.checked }
namespace Rows
def none {H : Type} : Left H := { results := [], args := [] }

/-- 'zzlaws_internal_raft_b1.FnSplitVotesStablePartitionByFlag': WHATEVER THE INPUT: true; the input reads as it did. -/
def fnSplitVotesStablePartitionByFlagSpec : ChangeSpec := { name := "fnSplitVotesStablePartitionByFlag", fn := fun _ => fun
  | [d] => { results := [.lit (.bool true)], args := [d] }
  | _ => none }
def fnSplitVotesStablePartitionByFlagRow : OpenClaim := { program := "qxb6603181a", sum := "fb94d1da8e133a99da1d5ce5117c777cfdb1311152fd39f908fddcef4cfe62df", func := "example.com/assent/assent/zzlaws_internal_raft_b1.FnSplitVotesStablePartitionByFlag", spec := "fnSplitVotesStablePartitionByFlag", apart := false }
def FnSplitVotesStablePartitionByFlagSaid : Prop := fnSplitVotesStablePartitionByFlagRow.holds Try.pinned (OpenSpec.ofChange fnSplitVotesStablePartitionByFlagSpec)

/-- ITS FALSE NEIGHBOUR: 'it returns false'. Refute it at one input. -/
def fnSplitVotesStablePartitionByFlagWrong : ChangeSpec := { name := "fnSplitVotesStablePartitionByFlag", fn := fun _ => fun
  | [d] => { results := [.lit (.bool false)], args := [d] }
  | _ => none }
def FnSplitVotesStablePartitionByFlagWrongFalsely : Prop := fnSplitVotesStablePartitionByFlagRow.holds Try.pinned (OpenSpec.ofChange fnSplitVotesStablePartitionByFlagWrong)

/-- 'zzlaws_internal_raft_b1.FnSplitVotesFixedOnItsParts': WHATEVER THE INPUT: true; the input reads as it did. -/
def fnSplitVotesFixedOnItsPartsSpec : ChangeSpec := { name := "fnSplitVotesFixedOnItsParts", fn := fun _ => fun
  | [d] => { results := [.lit (.bool true)], args := [d] }
  | _ => none }
def fnSplitVotesFixedOnItsPartsRow : OpenClaim := { program := "qxb6603181a", sum := "fb94d1da8e133a99da1d5ce5117c777cfdb1311152fd39f908fddcef4cfe62df", func := "example.com/assent/assent/zzlaws_internal_raft_b1.FnSplitVotesFixedOnItsParts", spec := "fnSplitVotesFixedOnItsParts", apart := false }
def FnSplitVotesFixedOnItsPartsSaid : Prop := fnSplitVotesFixedOnItsPartsRow.holds Try.pinned (OpenSpec.ofChange fnSplitVotesFixedOnItsPartsSpec)

/-- ITS FALSE NEIGHBOUR: 'it returns false'. Refute it at one input. -/
def fnSplitVotesFixedOnItsPartsWrong : ChangeSpec := { name := "fnSplitVotesFixedOnItsParts", fn := fun _ => fun
  | [d] => { results := [.lit (.bool false)], args := [d] }
  | _ => none }
def FnSplitVotesFixedOnItsPartsWrongFalsely : Prop := fnSplitVotesFixedOnItsPartsRow.holds Try.pinned (OpenSpec.ofChange fnSplitVotesFixedOnItsPartsWrong)

/-- 'zzlaws_internal_raft_b1.FnSplitVotesDistributesOverConcatenation': WHATEVER THE INPUT: true; the input reads as it did. -/
def fnSplitVotesDistributesOverConcatenationSpec : ChangeSpec := { name := "fnSplitVotesDistributesOverConcatenation", fn := fun _ => fun
  | [d1, d2] => { results := [.lit (.bool true)], args := [d1, d2] }
  | _ => none }
def fnSplitVotesDistributesOverConcatenationRow : OpenClaim := { program := "qxb6603181a", sum := "fb94d1da8e133a99da1d5ce5117c777cfdb1311152fd39f908fddcef4cfe62df", func := "example.com/assent/assent/zzlaws_internal_raft_b1.FnSplitVotesDistributesOverConcatenation", spec := "fnSplitVotesDistributesOverConcatenation", apart := false }
def FnSplitVotesDistributesOverConcatenationSaid : Prop := fnSplitVotesDistributesOverConcatenationRow.holds Try.pinned (OpenSpec.ofChange fnSplitVotesDistributesOverConcatenationSpec)

/-- ITS FALSE NEIGHBOUR: 'it returns false'. Refute it at one input. -/
def fnSplitVotesDistributesOverConcatenationWrong : ChangeSpec := { name := "fnSplitVotesDistributesOverConcatenation", fn := fun _ => fun
  | [d1, d2] => { results := [.lit (.bool false)], args := [d1, d2] }
  | _ => none }
def FnSplitVotesDistributesOverConcatenationWrongFalsely : Prop := fnSplitVotesDistributesOverConcatenationRow.holds Try.pinned (OpenSpec.ofChange fnSplitVotesDistributesOverConcatenationWrong)

end Rows
end Go.Proofs.Qxb6603181a
