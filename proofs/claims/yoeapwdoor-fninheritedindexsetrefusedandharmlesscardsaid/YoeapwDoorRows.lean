/-
  NARROWER THAN 'FOR EVERY INPUT', by the rows' own cells (each row's printed sentence says how): FnInheritedIndexSetRefusedAndHarmless: ifaces, laid.
  DERIVED. THE GIVEN ROWS OF THIS SEAT. 1 by the template 'for every input the law returns true; each argument reads behind the call as it read before'; 0 by the template 'total and deterministic' (their statements: YoeapwDoorTotals.lean).
  GIVEN WITH THE SEED: the statements are not yours to turn. If you find one false, say at which input.
  Laid BY PROGRAM, IN A SANDBOX (cutbox-rows.mjs): the forced cells as the released guide's own fill.sh prints them over the translation aae5cee2c4d7ce2e… (all of the seat's roots in one cut). By AI agents, Wed Nov 11 2026. No macro, syntax, notation, axiom, sorry.
-/
import Derived.Test.YoeapwDoorChecked
import GoSem.Claim
import GoSem.ClaimJoined
import GoSem.ClaimMapViews
import Derived.JoinedTies
import Derived.KernelRfl
namespace Go.Proofs.YoeapwDoor
/- THE CELL 'sum', in the pinned program and in every row, IS THE sha256 OF THE DUMP (.gsa) THAT YoeapwDoorProg.lean LOADS. Nothing in Lean hashes anything: it is a label: what it is worth is what the hold of that sum in a sandbox is worth. -/
noncomputable def Eapg.pinned : Pinned := { name := "yoeapwdoor", sum := "aae5cee2c4d7ce2edc5e43bd33041a842233e82ae0f340217ac6da33206aa1ef", checked := Eapg.checked }
namespace Rows
def none {H : Type} : Left H := { results := [], args := [] }

/- WHAT THE LISTED PACKAGE-LEVEL VARIABLES READ AS WHEN THE CALL BEGINS. Each datum BY PROGRAM (the guide's laid-datum.mjs) off the statement by which the dump's own 'gosem.cut.vars' lays the variable. In a bare row this is a premise. The card (YoeapwDoorCards.lean) ties it to the program's text. -/
def laid_github_com_d5_tengo_v2_ErrNotIndexAssignable {H : Type} : DataW H := .iface "*errors.errorString" (.ptr (.agg [.lit (.string [110, 111, 116, 32, 105, 110, 100, 101, 120, 45, 97, 115, 115, 105, 103, 110, 97, 98, 108, 101])]))

/-- 'zzlaws_root_b2.FnInheritedIndexSetRefusedAndHarmless': WHATEVER THE INPUT: true; the input reads as it did. -/
def fnInheritedIndexSetRefusedAndHarmlessSpec : ChangeSpec := { name := "fnInheritedIndexSetRefusedAndHarmless", vars := ["github.com/d5/tengo/v2.ErrNotIndexAssignable"], fn := fun _ => fun
  | [d1, d2, d3, d4, g1] => { results := [.lit (.bool true)], args := [d1, d2, d3, d4], vars := [g1] }
  | _ => none }
def fnInheritedIndexSetRefusedAndHarmlessRow : OpenClaim := { program := "yoeapwdoor", sum := "aae5cee2c4d7ce2edc5e43bd33041a842233e82ae0f340217ac6da33206aa1ef", func := "github.com/d5/tengo/v2/zzlaws_root_b2.FnInheritedIndexSetRefusedAndHarmless", spec := "fnInheritedIndexSetRefusedAndHarmless", inPlace := ["internal/reflectlite.TypeOf"], unfollowed := true, recurses := true, named := ["github.com/d5/tengo/v2.ErrNotIndexAssignable"], ifaces := true, apart := false, laid := [("github.com/d5/tengo/v2.ErrNotIndexAssignable", laid_github_com_d5_tengo_v2_ErrNotIndexAssignable)] }
def FnInheritedIndexSetRefusedAndHarmlessSaid : Prop := fnInheritedIndexSetRefusedAndHarmlessRow.holds Eapg.pinned (OpenSpec.ofChange fnInheritedIndexSetRefusedAndHarmlessSpec)

/-- ITS FALSE NEIGHBOUR: 'it returns false'. Refute it at one input. -/
def fnInheritedIndexSetRefusedAndHarmlessWrong : ChangeSpec := { name := "fnInheritedIndexSetRefusedAndHarmless", vars := ["github.com/d5/tengo/v2.ErrNotIndexAssignable"], fn := fun _ => fun
  | [d1, d2, d3, d4, g1] => { results := [.lit (.bool false)], args := [d1, d2, d3, d4], vars := [g1] }
  | _ => none }
def FnInheritedIndexSetRefusedAndHarmlessWrongFalsely : Prop := fnInheritedIndexSetRefusedAndHarmlessRow.holds Eapg.pinned (OpenSpec.ofChange fnInheritedIndexSetRefusedAndHarmlessWrong)

end Rows
end Go.Proofs.YoeapwDoor
