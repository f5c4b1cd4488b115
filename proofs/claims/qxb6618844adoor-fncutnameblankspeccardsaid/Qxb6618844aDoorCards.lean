/-
  DERIVED. GIVEN WITH THE SEED: THE CARDS: each row of Qxb6618844aDoorRows.lean that lists a variable, with what it lists TIED to the program's text (the seventh form; the later family's looks); each row that meets fmt, with fmt's text TOLD by the authors' own Lean function (tested against real Go, not proved from fmt's source: count such statements apart). THE CARD IS WHAT COUNTS. Prove the row's statement (the work); the ties are given (Qxb6618844aDoorTie.lean); close each card by the builder's one call (the guide's Derived/Test/ToyasCard.lean, 'card_holds'). Laid BY PROGRAM, IN A SANDBOX (cutbox-door.mjs). By AI agents, Wed Nov 11 2026. No macro, syntax, notation, axiom, sorry.
-/
import Derived.Test.Qxb6618844aDoorRows
import GoSem.ClaimSeven
namespace Go.Proofs.Qxb6618844aDoor
namespace Rows

/-- THE TIED CARD OF 'zzlaws_root_b1.FnCutNameBlankSpec'. -/
def fnCutNameBlankSpecCard : Claim7 := { stood := { row := fnCutNameBlankSpecRow, standIns := [], harness := (true, "e5e2563fa3bb323230a70c237566844d7dc35c318beaddc50808d8fff1ddd8fb"), looks := false }, kinds := [], alts := [], laidByText := true, laidKinds := [.listed], laidTests := true, laidLooks := .later }
def FnCutNameBlankSpecCardSaid : Prop := Claim7.holds Tryd.pinned (.plain (OpenSpec.ofChange fnCutNameBlankSpecSpec)) fnCutNameBlankSpecCard

/-- THE TIED CARD OF 'zzlaws_root_b1.FnCutNameBlankJoin'. -/
def fnCutNameBlankJoinCard : Claim7 := { stood := { row := fnCutNameBlankJoinRow, standIns := [], harness := (true, "e5e2563fa3bb323230a70c237566844d7dc35c318beaddc50808d8fff1ddd8fb"), looks := false }, kinds := [], alts := [], laidByText := true, laidKinds := [.listed], laidTests := true, laidLooks := .later }
def FnCutNameBlankJoinCardSaid : Prop := Claim7.holds Tryd.pinned (.plain (OpenSpec.ofChange fnCutNameBlankJoinSpec)) fnCutNameBlankJoinCard

/-- THE TIED CARD OF 'zzlaws_root_b1.FnCutNameBlankPrepend'. -/
def fnCutNameBlankPrependCard : Claim7 := { stood := { row := fnCutNameBlankPrependRow, standIns := [], harness := (true, "e5e2563fa3bb323230a70c237566844d7dc35c318beaddc50808d8fff1ddd8fb"), looks := false }, kinds := [], alts := [], laidByText := true, laidKinds := [.listed], laidTests := true, laidLooks := .later }
def FnCutNameBlankPrependCardSaid : Prop := Claim7.holds Tryd.pinned (.plain (OpenSpec.ofChange fnCutNameBlankPrependSpec)) fnCutNameBlankPrependCard
end Rows
end Go.Proofs.Qxb6618844aDoor
