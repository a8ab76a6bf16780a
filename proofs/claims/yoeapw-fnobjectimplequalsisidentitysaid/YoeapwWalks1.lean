import Derived.Test.YoeapwRows
import Derived.WalkKit
import Derived.WalkSpells
import Derived.WalkLawsBesides
import Derived.LaidEql
import Derived.Stop.Asserts
import Derived.Deep.QuietTactic
import Derived.BigQuiet
namespace Go.Proofs.Yoeapw
open Go.RowKit

theorem eql_same (a : Addr) (w : World) :
    (binOp .eql 42 (.iface 23 (.pointer (some a))) (.iface 23 (.pointer (some a)))).run Eapg.prog w = .ok (.bool true) w := by
  obtain ⟨i, hi, hc⟩ := Option.map_eq_some_iff.1 (show (Eapg.prog.info? 23).map (·.comparable) = some true by kernel_rfl)
  obtain ⟨j, hj, _⟩ := Option.map_eq_some_iff.1 (show (Eapg.prog.info? 25).map (·.comparable) = some true by kernel_rfl)
  exact run_eql_iface_ptr_same w a Eapg.underlying42 Eapg.underlying23 hi hc hj

theorem eql_other (a : Addr) (t : TypeId) (v : Value) (ht : 23 ≠ t) (w : World) :
    (binOp .eql 42 (.iface 23 (.pointer (some a))) (.iface t v)).run Eapg.prog w = .ok (.bool false) w :=
  run_eql_iface_types 23 t _ v Eapg.underlying42 ht w

theorem assert_int (v : Value) (w : World) :
    (Instr.typeAssert (.iface 27 v) 42 27 true).run Eapg.prog w = .ok (.tuple #[v, .bool true]) w := by
  simp [Instr.typeAssert, run_underlying Eapg.underlying27]

theorem assert_not (v : Value) (w : World) :
    (Instr.typeAssert (.iface 23 v) 42 27 true).run Eapg.prog w = .ok (.tuple #[.pointer none, .bool false]) w := by
  obtain ⟨j, hj, hz⟩ := Option.map_eq_some_iff.1 (show (Eapg.prog.info? 27).map (·.zero) = some (some (.pointer none)) by kernel_rfl)
  simp [Instr.typeAssert, run_underlying Eapg.underlying27, zeroValue, typeInfo, hj, hz]

set_option maxHeartbeats 400000 in
theorem equals6_same (a : Addr) (w : World) :
    Calls Eapg.prog 6 #[.pointer (some a), .iface 23 (.pointer (some a))] w fun e w' => e = .returned (.bool true) ∧ w' = w := by
  have h := eql_same a w
  go_enter Eapg.func6, Eapg.ntmps6
  go_wp2
  go_ret
  exact ⟨rfl, rfl⟩

set_option maxHeartbeats 400000 in
theorem equals6_other (a : Addr) (t : TypeId) (v : Value) (ht : 23 ≠ t) (w : World) :
    Calls Eapg.prog 6 #[.pointer (some a), .iface t v] w fun e w' => e = .returned (.bool false) ∧ w' = w := by
  have h := eql_other a t v ht w
  go_enter Eapg.func6, Eapg.ntmps6
  go_wp2
  go_ret
  exact ⟨rfl, rfl⟩

set_option maxHeartbeats 400000 in
theorem equals6_nil (a : Addr) (w : World) :
    Calls Eapg.prog 6 #[.pointer (some a), .nilIface] w fun e w' => e = .returned (.bool false) ∧ w' = w := by
  go_enter Eapg.func6, Eapg.ntmps6
  go_wp2
  go_ret
  exact ⟨rfl, rfl⟩

set_option maxHeartbeats 400000 in
theorem equals7_other (a b : Addr) (w : World) :
    Calls Eapg.prog 7 #[.pointer (some a), .iface 23 (.pointer (some b))] w fun e w' => e = .returned (.bool false) ∧ w' = w := by
  have h := assert_not (.pointer (some b)) w
  go_enter Eapg.func7, Eapg.ntmps7
  go_wp2
  go_ret
  exact ⟨rfl, rfl⟩

set_option maxHeartbeats 400000 in
theorem equals7_same (a b o p : Nat) (n : Int) (w : World) (ha : w.cell? ⟨a, o, none⟩ = some (.int .i64 n)) (hb : w.cell? ⟨b, p, none⟩ = some (.int .i64 n)) :
    Calls Eapg.prog 7 #[.pointer (some ⟨a, o, none⟩), .iface 27 (.pointer (some ⟨b, p, none⟩))] w fun e w' => e = .returned (.bool true) ∧ ∃ k, w' = w.drewN k := by
  have h := assert_int (.pointer (some ⟨b, p, none⟩)) w
  go_enter Eapg.func7, Eapg.ntmps7
  go_wp2
  go_quiet (fail)
  go_wp2
  go_ret
  exact ⟨rfl, _, rfl⟩

theorem byteOf_int {v : Value} {W : World} {b : Nat} (h0 : W.heap[b]? = some (.cells #[v] 29)) :
    (byteOf ⟨b, 0, none⟩).run Eapg.prog W = .ok 0 W := by
  have h1 : Eapg.prog.cellsOf 29 = 1 := by kernel_rfl
  have h2 : byteOfCell Eapg.prog Eapg.prog.depth 29 0 = some 0 := by kernel_rfl
  simp [byteOf, noView, viewAt, World.shape?, h0, h1, h2]

theorem partAt_int (v : Value) (w : World) :
    (partAt ⟨w.heap.size, 0, none⟩ 0 0).run Eapg.prog (w.alloc (.cells #[v] 29)) = .ok ⟨w.heap.size, 0, none⟩ (w.alloc (.cells #[v] 29)) := by
  have h := byteOf_int (v := v) (W := w.alloc (.cells #[v] 29)) (b := w.heap.size) (heap_alloc_new w _)
  simp [partAt, h]

end Go.Proofs.Yoeapw
