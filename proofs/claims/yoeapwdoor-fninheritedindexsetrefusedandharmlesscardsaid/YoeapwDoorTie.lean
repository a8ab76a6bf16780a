/-
  DERIVED. GIVEN WITH THE SEED: THE PROGRAM's TIES (one call each: nine closed facts by the kernel) AND EACH ROW's TIE, after the 31st guide's Derived/Test/Toyas{Tie, Card}.lean. No idea stands in it: it is a product of the set-up. Laid BY PROGRAM, IN A SANDBOX (cutbox-door.mjs). By AI agents, Wed Nov 11 2026. No macro, syntax, notation, axiom, sorry.
-/
import Derived.Test.YoeapwDoorRows
import Derived.LaidByTextLater
import Derived.SevenTiedAt
import Derived.LaidSub
import Derived.LaidOnce
namespace Go.Proofs.YoeapwDoor
open Go
set_option maxRecDepth 100000
theorem seatTie1 : Eapg.prog.laidByTextLater [("github.com/d5/tengo/v2.ErrNotIndexAssignable", Rows.laid_github_com_d5_tengo_v2_ErrNotIndexAssignable)] [.called] true :=
  Program.laidByTextLater_by_one 28 8 2 (by kernel_rfl) (by kernel_rfl) (by kernel_rfl) (by kernel_rfl) (by kernel_rfl) (by kernel_rfl) (fun _ _ => by kernel_rfl)
theorem noOwnUnsafe : Eapg.pinned.checked.prog.headLifts.contains "ownunsafe" = false := by kernel_rfl
theorem tie : Eapg.prog.laidByTextLater [("github.com/d5/tengo/v2.ErrNotIndexAssignable", Rows.laid_github_com_d5_tengo_v2_ErrNotIndexAssignable)] [.called] true :=
  Program.laidByTextLater.sub seatTie1 ["github.com/d5/tengo/v2.ErrNotIndexAssignable"] (by kernel_rfl) (by kernel_rfl)
theorem fnInheritedIndexSetRefusedAndHarmless_row_tie : Rows.fnInheritedIndexSetRefusedAndHarmlessRow.laidByTextAt .later Eapg.pinned [.called] true :=
  OpenClaim.laidByTextAt_later rfl rfl tie noOwnUnsafe
end Go.Proofs.YoeapwDoor
