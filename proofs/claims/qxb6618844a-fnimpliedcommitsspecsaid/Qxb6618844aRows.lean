/-
  No cell of these rows narrows 'for every input' (looked for: loops, veiled, ifaces, maps, wideKeys, modest, calm, conditions, laid).
  DERIVED. THE GIVEN ROWS OF THIS SEAT. 3 by the template 'for every input the law returns true; each argument reads behind the call as it read before'; 0 by the template 'total and deterministic' (their statements: Qxb6618844aTotals.lean).
  GIVEN WITH THE SEED: the statements are not yours to turn. If you find one false, say at which input.
  Laid BY PROGRAM, IN A SANDBOX (cutbox-rows.mjs): the forced cells as the released guide's own fill.sh prints them over the translation 232088135d18fa79… (all of the seat's roots in one cut). By AI agents, Wed Nov 11 2026. No macro, syntax, notation, axiom, sorry.
-/
import Derived.Test.Qxb6618844aChecked
import GoSem.Claim
import GoSem.ClaimJoined
import GoSem.ClaimMapViews
import Derived.JoinedTies
import Derived.KernelRfl
namespace Go.Proofs.Qxb6618844a
/- THE CELL 'sum', in the pinned program and in every row, IS THE sha256 OF THE DUMP (.gsa) THAT Qxb6618844aProg.lean LOADS. Nothing in Lean hashes anything: it is a label: what it is worth is what the hold of that sum in a sandbox is worth. -/
noncomputable def Try.pinned : Pinned := { name := "qxb6618844a", sum := "232088135d18fa79129144f26c01ebd2a0855537ef55d8ad879774b7d53ebdd4", checked := Try.checked }
namespace Rows
def none {H : Type} : Left H := { results := [], args := [] }

/-- 'zzlaws_root_b1.FnImpliedCommitsAppend': WHATEVER THE INPUT: true; the input reads as it did. -/
def fnImpliedCommitsAppendSpec : ChangeSpec := { name := "fnImpliedCommitsAppend", fn := fun _ => fun
  | [d1, d2] => { results := [.lit (.bool true)], args := [d1, d2] }
  | _ => none }
def fnImpliedCommitsAppendRow : OpenClaim := { program := "qxb6618844a", sum := "232088135d18fa79129144f26c01ebd2a0855537ef55d8ad879774b7d53ebdd4", func := "example.com/commitward/commitward/zzlaws_root_b1.FnImpliedCommitsAppend", spec := "fnImpliedCommitsAppend", unfollowed := true, recurses := true, apart := false }
def FnImpliedCommitsAppendSaid : Prop := fnImpliedCommitsAppendRow.holds Try.pinned (OpenSpec.ofChange fnImpliedCommitsAppendSpec)

/-- ITS FALSE NEIGHBOUR: 'it returns false'. Refute it at one input. -/
def fnImpliedCommitsAppendWrong : ChangeSpec := { name := "fnImpliedCommitsAppend", fn := fun _ => fun
  | [d1, d2] => { results := [.lit (.bool false)], args := [d1, d2] }
  | _ => none }
def FnImpliedCommitsAppendWrongFalsely : Prop := fnImpliedCommitsAppendRow.holds Try.pinned (OpenSpec.ofChange fnImpliedCommitsAppendWrong)

/-- 'zzlaws_root_b1.FnImpliedCommitsSpec': WHATEVER THE INPUT: true; the input reads as it did. -/
def fnImpliedCommitsSpecSpec : ChangeSpec := { name := "fnImpliedCommitsSpec", fn := fun _ => fun
  | [d] => { results := [.lit (.bool true)], args := [d] }
  | _ => none }
def fnImpliedCommitsSpecRow : OpenClaim := { program := "qxb6618844a", sum := "232088135d18fa79129144f26c01ebd2a0855537ef55d8ad879774b7d53ebdd4", func := "example.com/commitward/commitward/zzlaws_root_b1.FnImpliedCommitsSpec", spec := "fnImpliedCommitsSpec", unfollowed := true, recurses := true, apart := false }
def FnImpliedCommitsSpecSaid : Prop := fnImpliedCommitsSpecRow.holds Try.pinned (OpenSpec.ofChange fnImpliedCommitsSpecSpec)

/-- ITS FALSE NEIGHBOUR: 'it returns false'. Refute it at one input. -/
def fnImpliedCommitsSpecWrong : ChangeSpec := { name := "fnImpliedCommitsSpec", fn := fun _ => fun
  | [d] => { results := [.lit (.bool false)], args := [d] }
  | _ => none }
def FnImpliedCommitsSpecWrongFalsely : Prop := fnImpliedCommitsSpecRow.holds Try.pinned (OpenSpec.ofChange fnImpliedCommitsSpecWrong)

/-- 'zzlaws_root_b1.FnImpliedCommitsKindAt': WHATEVER THE INPUT: true; the input reads as it did. -/
def fnImpliedCommitsKindAtSpec : ChangeSpec := { name := "fnImpliedCommitsKindAt", fn := fun _ => fun
  | [d1, d2, d3] => { results := [.lit (.bool true)], args := [d1, d2, d3] }
  | _ => none }
def fnImpliedCommitsKindAtRow : OpenClaim := { program := "qxb6618844a", sum := "232088135d18fa79129144f26c01ebd2a0855537ef55d8ad879774b7d53ebdd4", func := "example.com/commitward/commitward/zzlaws_root_b1.FnImpliedCommitsKindAt", spec := "fnImpliedCommitsKindAt", unfollowed := true, recurses := true, apart := false }
def FnImpliedCommitsKindAtSaid : Prop := fnImpliedCommitsKindAtRow.holds Try.pinned (OpenSpec.ofChange fnImpliedCommitsKindAtSpec)

/-- ITS FALSE NEIGHBOUR: 'it returns false'. Refute it at one input. -/
def fnImpliedCommitsKindAtWrong : ChangeSpec := { name := "fnImpliedCommitsKindAt", fn := fun _ => fun
  | [d1, d2, d3] => { results := [.lit (.bool false)], args := [d1, d2, d3] }
  | _ => none }
def FnImpliedCommitsKindAtWrongFalsely : Prop := fnImpliedCommitsKindAtRow.holds Try.pinned (OpenSpec.ofChange fnImpliedCommitsKindAtWrong)

end Rows
end Go.Proofs.Qxb6618844a
