import Derived.Test.YoeapwRows
import Derived.Test.YoeapwWalks1
import Derived.WalkKit
import Derived.ProofKit
import Derived.OpenShut
import Derived.ShutString
namespace Go.Proofs.Yoeapw.fnObjectImplEqualsNotEmbedder
open Go.ChangeShapes Go.WideShapes Go.ChangeAt Go.RowKit
open Go.ChangeMaps (open_string shut_string)
set_option linter.unusedVariables false

theorem own : ownKnob Eapg.prog.godebug = none := by kernel_rfl

theorem walk (a0 : Int) (w0 : (Lit.int .i64 a0).wf = true) (w : World) :
    Calls Eapg.prog 4 #[.int .i64 a0] w fun e w' => e = .returned (.bool true) ∧ Grown w w' := by
  have h := partAt_int (.int .i64 a0) w
  go_enter Eapg.func4, Eapg.ntmps4
  go_wp2_with fail
  refine (equals6_other _ 27 _ (by decide) _).mono ?_
  rintro e w' ⟨rfl, rfl⟩
  go_wp2_with fail
  refine (equals6_same _ _).mono ?_
  rintro e w' ⟨rfl, rfl⟩
  go_wp2_with fail
  refine (equals7_other _ _ _).mono ?_
  rintro e w' ⟨rfl, rfl⟩
  go_wp2_with fail
  refine (equals7_same _ _ _ _ a0 _ (by go_simp) (by go_simp)).mono ?_
  rintro e w' ⟨rfl, k, rfl⟩
  go_wp2
  go_ret
  exact ⟨rfl, by repeat (first | exact Grown.refl _ | apply Grown.drew | apply Grown.alloc)⟩

set_option maxRecDepth 100000 in
theorem lifted (os : Os) (started : os.Started) (H : Type) (enc : TypeId × Value → H) :
    ReturnsInHanded {} Eapg.checked os 4 .any (Rows.fnObjectImplEqualsNotEmbedderSpec.pre6 enc Eapg.prog Eapg.f4 Rows.fnObjectImplEqualsNotEmbedderRow.domain false) (Rows.fnObjectImplEqualsNotEmbedderSpec.post enc Eapg.prog Eapg.f4 false true false false) := by
  refine returnsInHanded_of_change (C := Eapg.checked) own started (by kernel_rfl) Eapg.func4
    (ChangeSpec.witness6 (enc := enc) (C := Eapg.checked) false ⟨#[], #[.int .i64 0], []⟩ 8 (by kernel_rfl) (by kernel_rfl) (by kernel_rfl) (by kernel_rfl)) ?_
  intro W base args ds gs before hval0 hW hcnd _
  have hval : ∀ (j : Nat) t v, Eapg.f4.params[j]? = some t → args[j]? = some v → Value.okWide Eapg.prog W .any base t v := hval0
  have hW' := hW
  obtain ⟨p, q, hA0, hV, rfl, hfz, hnd⟩ := hW
  have hA : DataW.TrodAll enc Eapg.prog W 0 (fun _ => true) true Eapg.f4.params.toList args.toList ds p := hA0
  rw [Eapg.params4] at hA hval
  obtain ⟨v0, vs0, d0, ds0, p0, q0, hargs, rfl, rfl, h0, r0⟩ := trodAll_cons hA
  obtain ⟨rfl, rfl, rfl⟩ := trodAll_nil r0
  obtain rfl : args = #[v0] := by cases args; simp_all
  obtain ⟨rfl, rfl⟩ := trodVars_none hV
  obtain ⟨a0, rfl, rfl, rfl, w0⟩ := open_int Eapg.underlying2 (hval 0 2 v0 rfl rfl) h0
  clear hA0 hval0
  simp only [List.append_nil] at hW'
  refine (walk a0 w0 W).mono fun e W' ⟨he, hg⟩ => ?_
  subst he
  exact ⟨_, rfl, post_of_same (pa := []) (pv := []) hW' (fun _ _ _ => (trodAll_cons_mk (shut_bool Eapg.underlying4 _) trodAll_mk0)) (fun sp _ => (trodAll_cons_mk (shut_int Eapg.underlying2 w0) trodAll_mk0)) (fun _ _ => rfl) rfl
    (hg.frame _) hg.2.1 (ok_one (by kernel_rfl) rfl (okWide_bool_mk Eapg.underlying4 _))⟩

theorem over : Rows.fnObjectImplEqualsNotEmbedderRow.holds Eapg.pinned (OpenSpec.ofChange Rows.fnObjectImplEqualsNotEmbedderSpec) :=
  OpenClaim.holds_of_wide 4 Eapg.f4 rfl rfl rfl rfl rfl rfl rfl ⟨rfl, rfl, rfl, rfl, rfl⟩ rfl rfl rfl rfl rfl (by kernel_rfl) Eapg.func4 (by kernel_rfl)
    (of_decide_eq_true (by kernel_rfl)) (by unfold Func.isWrapper; first | (rw [if_pos (by decide +kernel)]; kernel_rfl) | (rw [if_neg (by decide +kernel)]; exact ⟨rfl, rfl⟩))
    (fun os started H enc _ => lifted os started H enc)

end Go.Proofs.Yoeapw.fnObjectImplEqualsNotEmbedder

namespace Go.Proofs.Yoeapw
theorem fnObjectImplEqualsNotEmbedder_proved : Rows.FnObjectImplEqualsNotEmbedderSaid := fnObjectImplEqualsNotEmbedder.over
end Go.Proofs.Yoeapw
