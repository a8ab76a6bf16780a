import Derived.Test.YoeapwDoorWorlds
import Derived.Deep.Cut
import Derived.Deep.CutRange
import Derived.Deep.RegionWith
import Derived.BigGuard
namespace Go.Proofs.YoeapwDoor
open Go.RowKit

set_option maxHeartbeats 800000 in
set_option maxRecDepth 1000000 in
theorem main_no1 (xo yo : Option Addr) (n nc m mc : Nat) (k j : Int) (h : 1048576 < (n : Int) + m) (w : World) :
    Calls Eapg.prog 3 #[.slice xo n nc, .slice yo m mc, .int .i64 k, .int .i64 j] w fun e w' => e = .returned (.bool true) ∧ w' = w := by
  go_enter Eapg.func3, Eapg.ntmps3
  go_wp2_with fail
  refine (zzbytes_no xo yo n nc m mc k j h _).mono ?_
  rintro e w' ⟨rfl, rfl⟩
  go_wp2
  go_ret
  exact ⟨rfl, rfl⟩

set_option maxHeartbeats 800000 in
set_option maxRecDepth 1000000 in
theorem main_no2 (xo yo : Option Addr) (n nc m mc : Nat) (k j : Int) (h : (n : Int) + m ≤ 1048576) (h1 : 131072 < (n : Int)) (w : World) :
    Calls Eapg.prog 3 #[.slice xo n nc, .slice yo m mc, .int .i64 k, .int .i64 j] w fun e w' => e = .returned (.bool true) ∧ w' = w := by
  go_enter Eapg.func3, Eapg.ntmps3
  go_wp2_with fail
  refine (zzbytes_yes xo yo n nc m mc k j h _).mono ?_
  rintro e w' ⟨rfl, rfl⟩
  go_wp2
  go_ret
  exact ⟨rfl, rfl⟩

set_option maxHeartbeats 800000 in
set_option maxRecDepth 1000000 in
theorem main_no3 (xo yo : Option Addr) (n nc m mc : Nat) (k j : Int) (h : (n : Int) + m ≤ 1048576) (h1 : (n : Int) ≤ 131072) (h2 : 1048576 < 8 * (n : Int) + m) (w : World) :
    Calls Eapg.prog 3 #[.slice xo n nc, .slice yo m mc, .int .i64 k, .int .i64 j] w fun e w' => e = .returned (.bool true) ∧ w' = w := by
  go_enter Eapg.func3, Eapg.ntmps3
  go_wp2_with fail
  refine (zzbytes_yes xo yo n nc m mc k j h _).mono ?_
  rintro e w' ⟨rfl, rfl⟩
  go_wp2
  go_ret
  exact ⟨rfl, rfl⟩

end Go.Proofs.YoeapwDoor
