/-
  No cell of these rows narrows 'for every input' (looked for: loops, veiled, ifaces, maps, wideKeys, modest, calm, conditions, laid).
  DERIVED. THE GIVEN ROWS OF THIS SEAT. 2 by the template 'for every input the law returns true; each argument reads behind the call as it read before'; 0 by the template 'total and deterministic' (their statements: YoeapwTotals.lean).
  GIVEN WITH THE SEED: the statements are not yours to turn. If you find one false, say at which input.
  Laid BY PROGRAM, IN A SANDBOX (cutbox-rows.mjs): the forced cells as the released guide's own fill.sh prints them over the translation a7109858fb50205b… (all of the seat's roots in one cut). By AI agents, Wed Nov 11 2026. No macro, syntax, notation, axiom, sorry.
-/
import Derived.Test.YoeapwChecked
import GoSem.Claim
import GoSem.ClaimJoined
import GoSem.ClaimMapViews
import Derived.JoinedTies
import Derived.KernelRfl
namespace Go.Proofs.Yoeapw
/- THE CELL 'sum', in the pinned program and in every row, IS THE sha256 OF THE DUMP (.gsa) THAT YoeapwProg.lean LOADS. Nothing in Lean hashes anything: it is a label: what it is worth is what the hold of that sum in a sandbox is worth. -/
noncomputable def Eapg.pinned : Pinned := { name := "yoeapw", sum := "a7109858fb50205b5d6b367cd2e7576bd2e0864d666930f625a56b39b726c203", checked := Eapg.checked }
namespace Rows
def none {H : Type} : Left H := { results := [], args := [] }

/-- 'zzlaws_root_b2.FnObjectImplEqualsIsIdentity': WHATEVER THE INPUT: true; the input reads as it did. -/
def fnObjectImplEqualsIsIdentitySpec : ChangeSpec := { name := "fnObjectImplEqualsIsIdentity", fn := fun _ => fun
  | [d1, d2] => { results := [.lit (.bool true)], args := [d1, d2] }
  | _ => none }
def fnObjectImplEqualsIsIdentityRow : OpenClaim := { program := "yoeapw", sum := "a7109858fb50205b5d6b367cd2e7576bd2e0864d666930f625a56b39b726c203", func := "github.com/d5/tengo/v2/zzlaws_root_b2.FnObjectImplEqualsIsIdentity", spec := "fnObjectImplEqualsIsIdentity", apart := false }
def FnObjectImplEqualsIsIdentitySaid : Prop := fnObjectImplEqualsIsIdentityRow.holds Eapg.pinned (OpenSpec.ofChange fnObjectImplEqualsIsIdentitySpec)

/-- ITS FALSE NEIGHBOUR: 'it returns false'. Refute it at one input. -/
def fnObjectImplEqualsIsIdentityWrong : ChangeSpec := { name := "fnObjectImplEqualsIsIdentity", fn := fun _ => fun
  | [d1, d2] => { results := [.lit (.bool false)], args := [d1, d2] }
  | _ => none }
def FnObjectImplEqualsIsIdentityWrongFalsely : Prop := fnObjectImplEqualsIsIdentityRow.holds Eapg.pinned (OpenSpec.ofChange fnObjectImplEqualsIsIdentityWrong)

/-- 'zzlaws_root_b2.FnObjectImplEqualsNotEmbedder': WHATEVER THE INPUT: true; the input reads as it did. -/
def fnObjectImplEqualsNotEmbedderSpec : ChangeSpec := { name := "fnObjectImplEqualsNotEmbedder", fn := fun _ => fun
  | [d] => { results := [.lit (.bool true)], args := [d] }
  | _ => none }
def fnObjectImplEqualsNotEmbedderRow : OpenClaim := { program := "yoeapw", sum := "a7109858fb50205b5d6b367cd2e7576bd2e0864d666930f625a56b39b726c203", func := "github.com/d5/tengo/v2/zzlaws_root_b2.FnObjectImplEqualsNotEmbedder", spec := "fnObjectImplEqualsNotEmbedder", apart := false }
def FnObjectImplEqualsNotEmbedderSaid : Prop := fnObjectImplEqualsNotEmbedderRow.holds Eapg.pinned (OpenSpec.ofChange fnObjectImplEqualsNotEmbedderSpec)

/-- ITS FALSE NEIGHBOUR: 'it returns false'. Refute it at one input. -/
def fnObjectImplEqualsNotEmbedderWrong : ChangeSpec := { name := "fnObjectImplEqualsNotEmbedder", fn := fun _ => fun
  | [d] => { results := [.lit (.bool false)], args := [d] }
  | _ => none }
def FnObjectImplEqualsNotEmbedderWrongFalsely : Prop := fnObjectImplEqualsNotEmbedderRow.holds Eapg.pinned (OpenSpec.ofChange fnObjectImplEqualsNotEmbedderWrong)

end Rows
end Go.Proofs.Yoeapw
