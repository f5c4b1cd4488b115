/-
  No cell of these rows narrows 'for every input' (looked for: loops, veiled, ifaces, maps, wideKeys, modest, calm, conditions, laid).
  DERIVED. THE GIVEN ROWS OF THIS SEAT. 4 by the template 'for every input the law returns true; each argument reads behind the call as it read before'; 0 by the template 'total and deterministic' (their statements: Qxb6619756aTotals.lean).
  GIVEN WITH THE SEED: the statements are not yours to turn. If you find one false, say at which input.
  Laid BY PROGRAM, IN A SANDBOX (cutbox-rows.mjs): the forced cells as the released guide's own fill.sh prints them over the translation 097827b36ddbe926… (all of the seat's roots in one cut). By AI agents, Wed Nov 11 2026. No macro, syntax, notation, axiom, sorry.
-/
import Derived.Test.Qxb6619756aChecked
import GoSem.Claim
import GoSem.ClaimJoined
import GoSem.ClaimMapViews
import Derived.JoinedTies
import Derived.KernelRfl
namespace Go.Proofs.Qxb6619756a
/- THE CELL 'sum', in the pinned program and in every row, IS THE sha256 OF THE DUMP (.gsa) THAT Qxb6619756aProg.lean LOADS. Nothing in Lean hashes anything: it is a label: what it is worth is what the hold of that sum in a sandbox is worth. -/
noncomputable def Try.pinned : Pinned := { name := "qxb6619756a", sum := "097827b36ddbe926a977d59e443dfa30ad98fc0a70a7b447d45028a81a285bce", checked := Try.checked }
namespace Rows
def none {H : Type} : Left H := { results := [], args := [] }

/-- 'zzlaws_internal_explore_b1.FnDecidedIsLeastMajorityBallot': WHATEVER THE INPUT: true; the input reads as it did. -/
def fnDecidedIsLeastMajorityBallotSpec : ChangeSpec := { name := "fnDecidedIsLeastMajorityBallot", fn := fun _ => fun
  | [d1, d2] => { results := [.lit (.bool true)], args := [d1, d2] }
  | _ => none }
def fnDecidedIsLeastMajorityBallotRow : OpenClaim := { program := "qxb6619756a", sum := "097827b36ddbe926a977d59e443dfa30ad98fc0a70a7b447d45028a81a285bce", func := "example.com/quorate/quorate/zzlaws_internal_explore_b1.FnDecidedIsLeastMajorityBallot", spec := "fnDecidedIsLeastMajorityBallot", apart := false }
def FnDecidedIsLeastMajorityBallotSaid : Prop := fnDecidedIsLeastMajorityBallotRow.holds Try.pinned (OpenSpec.ofChange fnDecidedIsLeastMajorityBallotSpec)

/-- ITS FALSE NEIGHBOUR: 'it returns false'. Refute it at one input. -/
def fnDecidedIsLeastMajorityBallotWrong : ChangeSpec := { name := "fnDecidedIsLeastMajorityBallot", fn := fun _ => fun
  | [d1, d2] => { results := [.lit (.bool false)], args := [d1, d2] }
  | _ => none }
def FnDecidedIsLeastMajorityBallotWrongFalsely : Prop := fnDecidedIsLeastMajorityBallotRow.holds Try.pinned (OpenSpec.ofChange fnDecidedIsLeastMajorityBallotWrong)

/-- 'zzlaws_internal_explore_b1.FnDecidedAfterUnanimousNewBallot': WHATEVER THE INPUT: true; the input reads as it did. -/
def fnDecidedAfterUnanimousNewBallotSpec : ChangeSpec := { name := "fnDecidedAfterUnanimousNewBallot", fn := fun _ => fun
  | [d1, d2, d3] => { results := [.lit (.bool true)], args := [d1, d2, d3] }
  | _ => none }
def fnDecidedAfterUnanimousNewBallotRow : OpenClaim := { program := "qxb6619756a", sum := "097827b36ddbe926a977d59e443dfa30ad98fc0a70a7b447d45028a81a285bce", func := "example.com/quorate/quorate/zzlaws_internal_explore_b1.FnDecidedAfterUnanimousNewBallot", spec := "fnDecidedAfterUnanimousNewBallot", apart := false }
def FnDecidedAfterUnanimousNewBallotSaid : Prop := fnDecidedAfterUnanimousNewBallotRow.holds Try.pinned (OpenSpec.ofChange fnDecidedAfterUnanimousNewBallotSpec)

/-- ITS FALSE NEIGHBOUR: 'it returns false'. Refute it at one input. -/
def fnDecidedAfterUnanimousNewBallotWrong : ChangeSpec := { name := "fnDecidedAfterUnanimousNewBallot", fn := fun _ => fun
  | [d1, d2, d3] => { results := [.lit (.bool false)], args := [d1, d2, d3] }
  | _ => none }
def FnDecidedAfterUnanimousNewBallotWrongFalsely : Prop := fnDecidedAfterUnanimousNewBallotRow.holds Try.pinned (OpenSpec.ofChange fnDecidedAfterUnanimousNewBallotWrong)

/-- 'zzlaws_internal_explore_b1.FnComponentAddMatchesFilterModel': WHATEVER THE INPUT: true; the input reads as it did. -/
def fnComponentAddMatchesFilterModelSpec : ChangeSpec := { name := "fnComponentAddMatchesFilterModel", fn := fun _ => fun
  | [d1, d2, d3, d4, d5, d6, d7, d8, d9, d10, d11, d12] => { results := [.lit (.bool true)], args := [d1, d2, d3, d4, d5, d6, d7, d8, d9, d10, d11, d12] }
  | _ => none }
def fnComponentAddMatchesFilterModelRow : OpenClaim := { program := "qxb6619756a", sum := "097827b36ddbe926a977d59e443dfa30ad98fc0a70a7b447d45028a81a285bce", func := "example.com/quorate/quorate/zzlaws_internal_explore_b1.FnComponentAddMatchesFilterModel", spec := "fnComponentAddMatchesFilterModel", apart := false }
def FnComponentAddMatchesFilterModelSaid : Prop := fnComponentAddMatchesFilterModelRow.holds Try.pinned (OpenSpec.ofChange fnComponentAddMatchesFilterModelSpec)

/-- ITS FALSE NEIGHBOUR: 'it returns false'. Refute it at one input. -/
def fnComponentAddMatchesFilterModelWrong : ChangeSpec := { name := "fnComponentAddMatchesFilterModel", fn := fun _ => fun
  | [d1, d2, d3, d4, d5, d6, d7, d8, d9, d10, d11, d12] => { results := [.lit (.bool false)], args := [d1, d2, d3, d4, d5, d6, d7, d8, d9, d10, d11, d12] }
  | _ => none }
def FnComponentAddMatchesFilterModelWrongFalsely : Prop := fnComponentAddMatchesFilterModelRow.holds Try.pinned (OpenSpec.ofChange fnComponentAddMatchesFilterModelWrong)

/-- 'zzlaws_internal_explore_b1.FnComponentAddSplitAtAnyCut': WHATEVER THE INPUT: true; the input reads as it did. -/
def fnComponentAddSplitAtAnyCutSpec : ChangeSpec := { name := "fnComponentAddSplitAtAnyCut", fn := fun _ => fun
  | [d1, d2, d3, d4, d5, d6, d7, d8, d9, d10, d11] => { results := [.lit (.bool true)], args := [d1, d2, d3, d4, d5, d6, d7, d8, d9, d10, d11] }
  | _ => none }
def fnComponentAddSplitAtAnyCutRow : OpenClaim := { program := "qxb6619756a", sum := "097827b36ddbe926a977d59e443dfa30ad98fc0a70a7b447d45028a81a285bce", func := "example.com/quorate/quorate/zzlaws_internal_explore_b1.FnComponentAddSplitAtAnyCut", spec := "fnComponentAddSplitAtAnyCut", apart := false }
def FnComponentAddSplitAtAnyCutSaid : Prop := fnComponentAddSplitAtAnyCutRow.holds Try.pinned (OpenSpec.ofChange fnComponentAddSplitAtAnyCutSpec)

/-- ITS FALSE NEIGHBOUR: 'it returns false'. Refute it at one input. -/
def fnComponentAddSplitAtAnyCutWrong : ChangeSpec := { name := "fnComponentAddSplitAtAnyCut", fn := fun _ => fun
  | [d1, d2, d3, d4, d5, d6, d7, d8, d9, d10, d11] => { results := [.lit (.bool false)], args := [d1, d2, d3, d4, d5, d6, d7, d8, d9, d10, d11] }
  | _ => none }
def FnComponentAddSplitAtAnyCutWrongFalsely : Prop := fnComponentAddSplitAtAnyCutRow.holds Try.pinned (OpenSpec.ofChange fnComponentAddSplitAtAnyCutWrong)

end Rows
end Go.Proofs.Qxb6619756a
