/-
  NARROWER THAN 'FOR EVERY INPUT', by the rows' own cells (each row's printed sentence says how): FnCutNameBlankSpec: laid · FnCutNameBlankJoin: laid · FnCutNameBlankPrepend: laid.
  DERIVED. THE GIVEN ROWS OF THIS SEAT. 3 by the template 'for every input the law returns true; each argument reads behind the call as it read before'; 0 by the template 'total and deterministic' (their statements: Qxb6618844aDoorTotals.lean).
  GIVEN WITH THE SEED: the statements are not yours to turn. If you find one false, say at which input.
  Laid BY PROGRAM, IN A SANDBOX (cutbox-rows.mjs): the forced cells as the released guide's own fill.sh prints them over the translation 8e18effc03302767… (all of the seat's roots in one cut). By AI agents, Wed Nov 11 2026. No macro, syntax, notation, axiom, sorry.
-/
import Derived.Test.Qxb6618844aDoorChecked
import GoSem.Claim
import GoSem.ClaimJoined
import GoSem.ClaimMapViews
import Derived.JoinedTies
import Derived.KernelRfl
namespace Go.Proofs.Qxb6618844aDoor
/- THE CELL 'sum', in the pinned program and in every row, IS THE sha256 OF THE DUMP (.gsa) THAT Qxb6618844aDoorProg.lean LOADS. Nothing in Lean hashes anything: it is a label: what it is worth is what the hold of that sum in a sandbox is worth. -/
noncomputable def Tryd.pinned : Pinned := { name := "qxb6618844adoor", sum := "8e18effc03302767e1d1f7f07f26b322d418b51ac55a6ffeac457666d0580f59", checked := Tryd.checked }
namespace Rows
def none {H : Type} : Left H := { results := [], args := [] }

/- WHAT THE LISTED PACKAGE-LEVEL VARIABLES READ AS WHEN THE CALL BEGINS. Each datum BY PROGRAM (the guide's laid-datum.mjs) off the statement by which the dump's own 'gosem.cut.vars' lays the variable. In a bare row this is a premise. The card (Qxb6618844aDoorCards.lean) ties it to the program's text. -/
def laid_unicode_White_Space {H : Type} : DataW H := .ptr (.agg [.slice [.agg [.lit (.int .u16 9), .lit (.int .u16 13), .lit (.int .u16 1)], .agg [.lit (.int .u16 32), .lit (.int .u16 133), .lit (.int .u16 101)], .agg [.lit (.int .u16 160), .lit (.int .u16 5760), .lit (.int .u16 5600)], .agg [.lit (.int .u16 8192), .lit (.int .u16 8202), .lit (.int .u16 1)], .agg [.lit (.int .u16 8232), .lit (.int .u16 8233), .lit (.int .u16 1)], .agg [.lit (.int .u16 8239), .lit (.int .u16 8287), .lit (.int .u16 48)], .agg [.lit (.int .u16 12288), .lit (.int .u16 12288), .lit (.int .u16 1)]] [], .nil, .lit (.int .i64 2)])

/-- 'zzlaws_root_b1.FnCutNameBlankSpec': WHATEVER THE INPUT: true; the input reads as it did. -/
def fnCutNameBlankSpecSpec : ChangeSpec := { name := "fnCutNameBlankSpec", fn := fun _ => fun
  | [d] => { results := [.lit (.bool true)], args := [d] }
  | _ => none }
def fnCutNameBlankSpecRow : OpenClaim := { program := "qxb6618844adoor", sum := "8e18effc03302767e1d1f7f07f26b322d418b51ac55a6ffeac457666d0580f59", func := "example.com/commitward/commitward/zzlaws_root_b1.FnCutNameBlankSpec", spec := "fnCutNameBlankSpec", unfollowed := true, recurses := true, named := ["unicode.White_Space"], apart := false, laid := [("unicode.White_Space", laid_unicode_White_Space)] }
def FnCutNameBlankSpecSaid : Prop := fnCutNameBlankSpecRow.holds Tryd.pinned (OpenSpec.ofChange fnCutNameBlankSpecSpec)

/-- ITS FALSE NEIGHBOUR: 'it returns false'. Refute it at one input. -/
def fnCutNameBlankSpecWrong : ChangeSpec := { name := "fnCutNameBlankSpec", fn := fun _ => fun
  | [d] => { results := [.lit (.bool false)], args := [d] }
  | _ => none }
def FnCutNameBlankSpecWrongFalsely : Prop := fnCutNameBlankSpecRow.holds Tryd.pinned (OpenSpec.ofChange fnCutNameBlankSpecWrong)

/-- 'zzlaws_root_b1.FnCutNameBlankJoin': WHATEVER THE INPUT: true; the input reads as it did. -/
def fnCutNameBlankJoinSpec : ChangeSpec := { name := "fnCutNameBlankJoin", fn := fun _ => fun
  | [d1, d2] => { results := [.lit (.bool true)], args := [d1, d2] }
  | _ => none }
def fnCutNameBlankJoinRow : OpenClaim := { program := "qxb6618844adoor", sum := "8e18effc03302767e1d1f7f07f26b322d418b51ac55a6ffeac457666d0580f59", func := "example.com/commitward/commitward/zzlaws_root_b1.FnCutNameBlankJoin", spec := "fnCutNameBlankJoin", unfollowed := true, recurses := true, named := ["unicode.White_Space"], apart := false, laid := [("unicode.White_Space", laid_unicode_White_Space)] }
def FnCutNameBlankJoinSaid : Prop := fnCutNameBlankJoinRow.holds Tryd.pinned (OpenSpec.ofChange fnCutNameBlankJoinSpec)

/-- ITS FALSE NEIGHBOUR: 'it returns false'. Refute it at one input. -/
def fnCutNameBlankJoinWrong : ChangeSpec := { name := "fnCutNameBlankJoin", fn := fun _ => fun
  | [d1, d2] => { results := [.lit (.bool false)], args := [d1, d2] }
  | _ => none }
def FnCutNameBlankJoinWrongFalsely : Prop := fnCutNameBlankJoinRow.holds Tryd.pinned (OpenSpec.ofChange fnCutNameBlankJoinWrong)

/-- 'zzlaws_root_b1.FnCutNameBlankPrepend': WHATEVER THE INPUT: true; the input reads as it did. -/
def fnCutNameBlankPrependSpec : ChangeSpec := { name := "fnCutNameBlankPrepend", fn := fun _ => fun
  | [d1, d2] => { results := [.lit (.bool true)], args := [d1, d2] }
  | _ => none }
def fnCutNameBlankPrependRow : OpenClaim := { program := "qxb6618844adoor", sum := "8e18effc03302767e1d1f7f07f26b322d418b51ac55a6ffeac457666d0580f59", func := "example.com/commitward/commitward/zzlaws_root_b1.FnCutNameBlankPrepend", spec := "fnCutNameBlankPrepend", unfollowed := true, recurses := true, named := ["unicode.White_Space"], apart := false, laid := [("unicode.White_Space", laid_unicode_White_Space)] }
def FnCutNameBlankPrependSaid : Prop := fnCutNameBlankPrependRow.holds Tryd.pinned (OpenSpec.ofChange fnCutNameBlankPrependSpec)

/-- ITS FALSE NEIGHBOUR: 'it returns false'. Refute it at one input. -/
def fnCutNameBlankPrependWrong : ChangeSpec := { name := "fnCutNameBlankPrepend", fn := fun _ => fun
  | [d1, d2] => { results := [.lit (.bool false)], args := [d1, d2] }
  | _ => none }
def FnCutNameBlankPrependWrongFalsely : Prop := fnCutNameBlankPrependRow.holds Tryd.pinned (OpenSpec.ofChange fnCutNameBlankPrependWrong)

end Rows
end Go.Proofs.Qxb6618844aDoor
