import Derived.Test.YoeapwDoorRows
import Derived.Test.YoeapwDoorMain
import Derived.ProofKit
import Derived.OpenShut
import Derived.ShutString
import Derived.ChangeOld
import Derived.Below
import Derived.LaidMore
import Derived.LaidLaws
import Derived.Stop.LaidErr
import Derived.Stop.Joined
import Derived.SevenTiedAt
namespace Go.Proofs.YoeapwDoor
open Go.ChangeShapes Go.WideShapes Go.ChangeAt Go.RowKit

theorem own : ownKnob Eapg.prog.godebug = none := by kernel_rfl
theorem laidOut : laidOutB Eapg.prog = true := by kernel_rfl
theorem cells101 : Eapg.prog.cellsOf 101 = 1 := by kernel_rfl
theorem cells9 : Eapg.prog.cellsOf 9 = 1 := by kernel_rfl

/-- The variable's name, as the specification bears it. -/
abbrev varName : String := Rows.fnInheritedIndexSetRefusedAndHarmlessSpec.vars.headD ""
theorem gVar : Eapg.prog.globalNamed varName = some 0 := by kernel_rfl
theorem tVar : (Eapg.prog.globals[0]?).map (·.type) = some 40 := by kernel_rfl

/-- WHAT THE CONDITION GIVES THE WALK: the variable holds a pointer to an errors.errorString. -/
theorem of_laid {W : World} (h : laidMetH Eapg.prog Rows.fnInheritedIndexSetRefusedAndHarmlessRow.laid W) : ∃ a, W.var? Eapg.prog varName = some #[.iface 63 (.pointer (some a))] := by
  rw [MakeChecks.laidMetH_plain _ _ _ (by kernel_rfl)] at h
  have hrow : ∀ u, Eapg.prog.typeName? 3 u = Eapg.prog.typeName? 3 63 → u = 63 := fun u hu =>
    typeName_ptr_named (nm := "errors.errorString") (by simp only [String.reduceAppend]; kernel_rfl) (by kernel_rfl) (by decide) u (hu.trans (by simp only [String.reduceAppend]; kernel_rfl))
  obtain ⟨a, s, hv, _⟩ := laid_sentinel h gVar tVar Eapg.underlying40 (fun u hu => hrow u (hu.trans (by kernel_rfl))) Eapg.underlying63 Eapg.underlying101 rfl rfl Eapg.underlying9 cells101 cells9
  exact ⟨a, hv⟩

/-- What is told of a slice of integers that came in. -/
def IsRow (k : IntKind) (w : World) (a : Option Addr) (len cap : Nat) : Prop :=
  ∃ (b off : Nat) (Z : Nat → Int), (a = none → len = 0 ∧ cap = 0) ∧ (0 < len → a = some ⟨b, off, none⟩) ∧ ∀ i, i < len → w.cell? ⟨b, off + i, none⟩ = some (.int k (Z i))

theorem isRow_of {k : IntKind} {w : World} {x : Addr} {len cap : Nat} {zs : List Int} (hl : len ≤ cap) (hz : zs.length = cap) (hc : ∀ i, i < zs.length → w.cell? (x.add i) = some (.int k (zs.getD i 0))) : IsRow k w (some x) len cap := by
  by_cases h : 0 < len
  · obtain ⟨b, off, rfl, hc'⟩ := ints_at hc (by omega)
    exact ⟨b, off, fun i => zs.getD i 0, fun e => (by cases e), fun _ => rfl, fun i hi => hc' i (by omega)⟩
  · exact ⟨0, 0, fun _ => 0, fun e => (by cases e), fun h' => absurd h' h, fun i hi => absurd (Nat.lt_of_le_of_lt (Nat.zero_le i) hi) h⟩

theorem below_of_since {w w' : World} {B : Nat} (h : w.Since B w') : Below B w w' := ⟨h.os, h.tape, h.output, h.size, h.block⟩

/-- THE WALK, every input. -/
theorem walk (xo yo : Option Addr) (n nc m mc : Nat) (k j : Int) (a : Addr) (w : World) (hx : IsRow .i64 w xo n nc) (hy : IsRow .u8 w yo m mc) (hg : w.cell? ⟨0, 0, none⟩ = some (.iface 63 (.pointer (some a)))) :
    Calls Eapg.prog 3 #[.slice xo n nc, .slice yo m mc, .int .i64 k, .int .i64 j] w fun e w' => e = .returned (.bool true) ∧ Below w.heap.size w w' := by
  obtain ⟨bx, ox, Z, hxn, hxa, hxc⟩ := hx
  obtain ⟨bb, oy, Y, hyn, hya, hyc⟩ := hy
  by_cases h1 : (n : Int) + m ≤ 1048576
  · by_cases h2 : (n : Int) ≤ 131072
    · by_cases h3 : 8 * (n : Int) + m ≤ 1048576
      · refine (main_yes xo yo bx ox bb oy n nc m mc k j Z Y a w h1 h2 h3 hxn hxa hxc hyn hya hyc hg).mono ?_
        rintro e w' ⟨rfl, hs⟩
        exact ⟨rfl, below_of_since hs⟩
      · refine (main_no3 xo yo n nc m mc k j h1 h2 (by omega) w).mono ?_
        rintro e w' ⟨rfl, rfl⟩
        exact ⟨rfl, Below.refl _ _⟩
    · refine (main_no2 xo yo n nc m mc k j h1 (by omega) w).mono ?_
      rintro e w' ⟨rfl, rfl⟩
      exact ⟨rfl, Below.refl _ _⟩
  · refine (main_no1 xo yo n nc m mc k j (by omega) w).mono ?_
    rintro e w' ⟨rfl, rfl⟩
    exact ⟨rfl, Below.refl _ _⟩

end Go.Proofs.YoeapwDoor
