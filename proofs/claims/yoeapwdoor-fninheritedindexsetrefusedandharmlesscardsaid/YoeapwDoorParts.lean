import Derived.Test.YoeapwDoorRows
import Derived.WalkKit
import Derived.WalkSpells
import Derived.WalkLawsBesides
import Derived.LaidEql
import Derived.Stop.Asserts
import Derived.RowKitTokens
import Derived.Deep.QuietTactic
import Derived.BigQuiet
namespace Go.Proofs.YoeapwDoor
open Go.RowKit Go.Extern.Stop Go.Stop Go.Extern

theorem Eapg.isTypeOf (v : Value) (w : World) : (Extern.ReflectliteType.typeOf #[.iface 63 v]).run Eapg.prog w = .ok (.iface 54 (.agg #[.pointer (some ⟨1, 63, none⟩)])) w := by kernel_rfl
theorem Eapg.isComparable (w : World) : (Extern.find Eapg.f62).map (fun g => (g #[.agg #[.pointer (some ⟨1, 63, none⟩)]]).run Eapg.prog w) = some (.ok (.bool true) w) := by kernel_rfl
theorem Eapg.isMethodComparable (v : Value) (w : World) : (Go.method 220 54 v "Comparable").run Eapg.prog w = .ok (62, v) w := by kernel_rfl
theorem Eapg.isComp : (Eapg.prog.info? 63).map (·.comparable) = some true := by kernel_rfl
theorem Eapg.isSize : (Eapg.prog.info? 101).map (·.size) = some 1 := by kernel_rfl

set_option maxHeartbeats 400000 in
set_option maxRecDepth 100000 in
theorem is_same (a : Addr) (w : World) :
    Calls Eapg.prog 9 #[.iface 63 (.pointer (some a)), .iface 63 (.pointer (some a))] w fun e w' => e = .returned (.bool true) ∧ w' = w := by
  obtain ⟨i, hi, hcmp⟩ := Option.map_eq_some_iff.1 Eapg.isComp
  obtain ⟨j, hj, hjs⟩ := Option.map_eq_some_iff.1 Eapg.isSize
  have h8 := @run_callFunc_extern Eapg.prog 10 _ Extern.ReflectliteType.typeOf Eapg.func10 (by kernel_rfl) (by kernel_rfl) (by kernel_rfl) (by kernel_rfl)
  obtain ⟨g, hfind, _⟩ := Option.map_eq_some_iff.1 (Eapg.isComparable w)
  have cT : ∀ w, (g #[.agg #[.pointer (some ⟨1, 63, none⟩)]]).run Eapg.prog w = .ok (.bool true) w := fun w => by
    have h := Eapg.isComparable w
    rw [hfind] at h
    exact Option.some.inj h
  have h32 := @run_callFunc_extern Eapg.prog 62 _ g Eapg.func62 (by kernel_rfl) (by kernel_rfl) (by kernel_rfl) hfind
  clear hfind
  have tT := Eapg.isTypeOf
  have mR := Eapg.isMethodComparable
  have heq := run_eql_iface_ptr_same (P := Eapg.prog) w a Eapg.underlying40 Eapg.underlying63 hi hcmp hj
  go_enter Eapg.func9, Eapg.ntmps9
  go_wp2
  refine wp_loop_rounds 1 ?_
  rw [rounds_succ]
  go_wp2
  go_ret
  exact ⟨rfl, rfl⟩

set_option maxHeartbeats 400000 in
theorem indexSet_any (v0 v1 v2 x : Value) (w : World) (hg : w.cell? ⟨0, 0, none⟩ = some (.iface 63 x)) :
    Calls Eapg.prog 8 #[v0, v1, v2] w fun e w' => e = .returned (.iface 63 x) ∧ w' = w := by
  go_enter Eapg.func8, Eapg.ntmps8
  go_wp2
  go_ret
  exact ⟨rfl, rfl⟩

set_option maxHeartbeats 400000 in
theorem isNot_same (a : Addr) (w : World) (hg : w.cell? ⟨0, 0, none⟩ = some (.iface 63 (.pointer (some a)))) :
    Calls Eapg.prog 7 #[.iface 63 (.pointer (some a))] w fun e w' => e = .returned (.bool true) ∧ w' = w := by
  go_enter Eapg.func7, Eapg.ntmps7
  go_wp2_with fail
  refine (is_same a _).mono ?_
  rintro e w' ⟨rfl, rfl⟩
  go_wp2
  go_ret
  exact ⟨rfl, rfl⟩

theorem assert_int (v : Value) (w : World) :
    (Instr.typeAssert (.iface 28 v) 34 28 true).run Eapg.prog w = .ok (.tuple #[v, .bool true]) w := by
  simp [Instr.typeAssert, run_underlying Eapg.underlying28]

set_option maxHeartbeats 400000 in
theorem equals28_same (a b o p : Nat) (n : Int) (w : World) (ha : w.cell? ⟨a, o, none⟩ = some (.int .i64 n)) (hb : w.cell? ⟨b, p, none⟩ = some (.int .i64 n)) :
    Calls Eapg.prog 28 #[.pointer (some ⟨a, o, none⟩), .iface 28 (.pointer (some ⟨b, p, none⟩))] w fun e w' => e = .returned (.bool true) ∧ ∃ k, w' = w.drewN k := by
  have h := assert_int (.pointer (some ⟨b, p, none⟩)) w
  go_enter Eapg.func28, Eapg.ntmps28
  go_wp2
  go_quiet (fail)
  go_wp2
  go_ret
  exact ⟨rfl, _, rfl⟩

theorem byteOf_at {t : TypeId} {v : Value} {W : World} {b : Nat} (h1 : Eapg.prog.cellsOf t = 1) (h2 : byteOfCell Eapg.prog Eapg.prog.depth t 0 = some 0) (h0 : W.heap[b]? = some (.cells #[v] t)) :
    (byteOf ⟨b, 0, none⟩).run Eapg.prog W = .ok 0 W := by
  simp [byteOf, noView, viewAt, World.shape?, h0, h1, h2]

theorem partAt_at {t : TypeId} {v : Value} {W : World} {b : Nat} (h1 : Eapg.prog.cellsOf t = 1) (h2 : byteOfCell Eapg.prog Eapg.prog.depth t 0 = some 0) (h0 : W.heap[b]? = some (.cells #[v] t)) :
    (partAt ⟨b, 0, none⟩ 0 0).run Eapg.prog W = .ok ⟨b, 0, none⟩ W := by
  have h := byteOf_at h1 h2 h0
  simp [partAt, h]

theorem partAt_32 {v : Value} {W : World} {b : Nat} (h0 : W.heap[b]? = some (.cells #[v] 32)) :
    (partAt ⟨b, 0, none⟩ 0 0).run Eapg.prog W = .ok ⟨b, 0, none⟩ W := partAt_at (by kernel_rfl) (by kernel_rfl) h0
theorem partAt_37 {v : Value} {W : World} {b : Nat} (h0 : W.heap[b]? = some (.cells #[v] 37)) :
    (partAt ⟨b, 0, none⟩ 0 0).run Eapg.prog W = .ok ⟨b, 0, none⟩ W := partAt_at (by kernel_rfl) (by kernel_rfl) h0
theorem partAt_45 {v : Value} {W : World} {b : Nat} (h0 : W.heap[b]? = some (.cells #[v] 45)) :
    (partAt ⟨b, 0, none⟩ 0 0).run Eapg.prog W = .ok ⟨b, 0, none⟩ W := partAt_at (by kernel_rfl) (by kernel_rfl) h0

set_option maxHeartbeats 400000 in
theorem zzbytes_yes (xo yo : Option Addr) (n nc m mc : Nat) (k j : Int) (h : (n : Int) + m ≤ 1048576) (w : World) :
    Calls Eapg.prog 4 #[.slice xo n nc, .slice yo m mc, .int .i64 k, .int .i64 j] w fun e w' => e = .returned (.bool true) ∧ w' = w := by
  go_enter Eapg.func4, Eapg.ntmps4
  go_wp2
  go_ret
  exact ⟨rfl, rfl⟩

set_option maxHeartbeats 400000 in
theorem zzbytes_no (xo yo : Option Addr) (n nc m mc : Nat) (k j : Int) (h : 1048576 < (n : Int) + m) (w : World) :
    Calls Eapg.prog 4 #[.slice xo n nc, .slice yo m mc, .int .i64 k, .int .i64 j] w fun e w' => e = .returned (.bool false) ∧ w' = w := by
  by_cases h1 : (n : Int) ≤ 1048576
  · by_cases h2 : (m : Int) ≤ 1048576
    · go_enter Eapg.func4, Eapg.ntmps4
      go_wp2
      go_ret
      exact ⟨rfl, rfl⟩
    · have h3 : 1048576 < (m : Int) := by omega
      go_enter Eapg.func4, Eapg.ntmps4
      go_wp2
      go_ret
      exact ⟨rfl, rfl⟩
  · have h3 : 1048576 < (n : Int) := by omega
    go_enter Eapg.func4, Eapg.ntmps4
    go_wp2
    go_ret
    exact ⟨rfl, rfl⟩

end Go.Proofs.YoeapwDoor
