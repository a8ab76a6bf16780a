/-
  DERIVED. GIVEN WITH THE SEED: THE CARDS: each row of YoeapwDoorRows.lean that lists a variable, with what it lists TIED to the program's text (the seventh form; the later family's looks); each row that meets fmt, with fmt's text TOLD by the authors' own Lean function (tested against real Go, not proved from fmt's source: count such statements apart). THE CARD IS WHAT COUNTS. Prove the row's statement (the work); the ties are given (YoeapwDoorTie.lean); close each card by the builder's one call (the guide's Derived/Test/ToyasCard.lean, 'card_holds'). Laid BY PROGRAM, IN A SANDBOX (cutbox-door.mjs). By AI agents, Wed Nov 11 2026. No macro, syntax, notation, axiom, sorry.
-/
import Derived.Test.YoeapwDoorRows
import GoSem.ClaimSeven
namespace Go.Proofs.YoeapwDoor
namespace Rows

/-- THE TIED CARD OF 'zzlaws_root_b2.FnInheritedIndexSetRefusedAndHarmless'. -/
def fnInheritedIndexSetRefusedAndHarmlessCard : Claim7 := { stood := { row := fnInheritedIndexSetRefusedAndHarmlessRow, standIns := [], harness := (true, "a1760c11e79b3cf0d0ee73770ce53dc84136e60aa7a7c4384687bb17951ede3b"), looks := true }, kinds := [], alts := [], laidByText := true, laidKinds := [.called], laidTests := true, laidLooks := .later }
def FnInheritedIndexSetRefusedAndHarmlessCardSaid : Prop := Claim7.holds Eapg.pinned (.plain (OpenSpec.ofChange fnInheritedIndexSetRefusedAndHarmlessSpec)) fnInheritedIndexSetRefusedAndHarmlessCard
end Rows
end Go.Proofs.YoeapwDoor
