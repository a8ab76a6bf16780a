import Derived.Test.YoeapwWalks1
import Derived.ProofKit
namespace Go.Proofs.Yoeapw
open Go.RowKit

set_option maxHeartbeats 400000 in
theorem zzbytes_yes (a0 : Int) (a1 : ByteArray) (h1 : (a1.size : Int) ≤ 1048576) (w : World) :
    Calls Eapg.prog 5 #[.int .i64 a0, .string a1] w fun e w' => e = .returned (.bool true) ∧ w' = w := by
  go_enter Eapg.func5, Eapg.ntmps5
  go_wp2
  go_ret
  exact ⟨rfl, rfl⟩

set_option maxHeartbeats 400000 in
theorem zzbytes_no (a0 : Int) (a1 : ByteArray) (h1 : 1048576 < (a1.size : Int)) (w : World) :
    Calls Eapg.prog 5 #[.int .i64 a0, .string a1] w fun e w' => e = .returned (.bool false) ∧ w' = w := by
  go_enter Eapg.func5, Eapg.ntmps5
  go_wp2
  go_ret
  exact ⟨rfl, rfl⟩

set_option maxHeartbeats 400000 in
theorem walk3_no (a0 : Int) (a1 : ByteArray) (h1 : 1048576 < (a1.size : Int)) (w : World) :
    Calls Eapg.prog 3 #[.int .i64 a0, .string a1] w fun e w' => e = .returned (.bool true) ∧ w' = w := by
  go_enter Eapg.func3, Eapg.ntmps3
  go_wp2_with fail
  refine (zzbytes_no a0 a1 h1 _).mono ?_
  rintro e w' ⟨rfl, rfl⟩
  go_wp2_with fail
  go_ret
  exact ⟨rfl, rfl⟩

set_option maxHeartbeats 400000 in
theorem walk3_yes (a0 : Int) (a1 : ByteArray) (h1 : (a1.size : Int) ≤ 1048576) (w : World) :
    Calls Eapg.prog 3 #[.int .i64 a0, .string a1] w fun e w' => e = .returned (.bool true) ∧ Grown w w' := by
  go_enter Eapg.func3, Eapg.ntmps3
  go_wp2_with fail
  refine (zzbytes_yes a0 a1 h1 _).mono ?_
  rintro e w' ⟨rfl, rfl⟩
  go_wp2_with fail
  refine (equals6_same _ _).mono ?_
  rintro e w' ⟨rfl, rfl⟩
  go_wp2_with fail
  refine (equals6_nil _ _).mono ?_
  rintro e w' ⟨rfl, rfl⟩
  go_wp2_with fail
  refine (equals6_other _ 27 _ (by decide) _).mono ?_
  rintro e w' ⟨rfl, rfl⟩
  go_wp2_with fail
  refine (equals6_other _ 30 _ (by decide) _).mono ?_
  rintro e w' ⟨rfl, rfl⟩
  go_wp2_with fail
  refine (equals6_other _ 34 _ (by decide) _).mono ?_
  rintro e w' ⟨rfl, rfl⟩
  go_wp2_with fail
  refine (equals6_other _ 34 _ (by decide) _).mono ?_
  rintro e w' ⟨rfl, rfl⟩
  go_wp2_with fail
  refine (equals6_other _ 38 _ (by decide) _).mono ?_
  rintro e w' ⟨rfl, rfl⟩
  go_wp2
  go_ret
  refine ⟨rfl, ?_⟩
  repeat (first | exact Grown.refl _ | apply Grown.drew | apply Grown.alloc)

end Go.Proofs.Yoeapw
