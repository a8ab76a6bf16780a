import Derived.Test.YoeapwDoorParts
import Derived.Deep.LoopGhost
import Derived.Deep.OwnRows
import Derived.Deep.Light
namespace Go.Proofs.YoeapwDoor
open Go.RowKit

theorem Eapg.info2 : (Eapg.prog.info? 2).map (fun i => (i.zero, i.size, i.bytes)) = some (some (.int .i64 0), 1, 8) := by kernel_rfl
theorem Eapg.info5 : (Eapg.prog.info? 5).map (fun i => (i.zero, i.size, i.bytes)) = some (some (.int .u8 0), 1, 1) := by kernel_rfl
theorem Eapg.info34 : (Eapg.prog.info? 34).map (fun i => (i.zero, i.size, i.bytes)) = some (some .nilIface, 1, 16) := by kernel_rfl

/-- The new block, r of its n cells written. -/
structure Copied (w wr : World) (t : TypeId) (n r : Nat) (z : Value) (Z : Nat → Value) : Prop where
  since : w.Since w.heap.size wr
  size : wr.heap.size = w.heap.size + 1
  row : wr.rowIs w.heap.size t n (fun j => if j < r then Z j else z)

theorem copied_start (w : World) (t : TypeId) (n : Nat) (z : Value) (Z : Nat → Value) : Copied w (w.alloc (.cells (madeCells #[z] n) t)) t n 0 z Z :=
  ⟨(World.Since.refl _ _).alloc (Nat.le_refl _) _, by simp, (World.rowIs_made w _ n t).congr (fun j _ => by simp)⟩

theorem copied_step {w wr : World} {t : TypeId} {n r : Nat} {z : Value} {Z : Nat → Value} (h : Copied w wr t n r z Z) :
    Copied w (wr.setCell ⟨w.heap.size, r, none⟩ (Z r)) t n (r + 1) z Z := by
  refine ⟨h.since.setCell (Nat.le_refl _) _, by simp [h.size], (h.row.set r _).congr (fun i _ => ?_)⟩
  by_cases e : i = r
  · subst e; simp
  · rw [if_neg e]
    by_cases hlt : i < r
    · rw [if_pos hlt, if_pos (by omega)]
    · rw [if_neg hlt, if_neg (by omega)]

set_option maxHeartbeats 400000 in
theorem clone5_nil (w : World) :
    Calls Eapg.prog 5 #[.slice none 0 0] w fun e w' => e = .returned (.slice none 0 0) ∧ w' = w := by
  have hnil := Go.Lib.run_eql_slice_nil (P := Eapg.prog) w 22 2 none 0 0 0 0 Eapg.underlying22
  go_enter Eapg.func5, Eapg.ntmps5
  go_wp2
  go_ret
  exact ⟨rfl, rfl⟩

set_option maxHeartbeats 400000 in
theorem clone5_some (ad : Addr) (b off n cap : Nat) (Z : Nat → Int) (w : World) (hn : n ≤ 1048576) (had : 0 < n → ad = ⟨b, off, none⟩)
    (hc : ∀ j, j < n → w.cell? ⟨b, off + j, none⟩ = some (.int .i64 (Z j))) :
    Calls Eapg.prog 5 #[.slice (some ad) n cap] w fun e w' => e = .returned (.slice (some ⟨w.heap.size, 0, none⟩) n n) ∧ Copied w w' 2 n n (.int .i64 0) (fun j => .int .i64 (Z j)) := by
  have hmk := run_make_row' (P := Eapg.prog) 22 2 (.int .i64 0) 8 Eapg.underlying22 Eapg.info2 rfl .i64 .i64 n (by omega) (by omega)
  have hnil := Go.Lib.run_eql_slice_nil (P := Eapg.prog) w 22 2 (some ad) n cap 0 0 Eapg.underlying22
  go_enter Eapg.func5, Eapg.ntmps5
  go_wp2
  clear hmk hnil
  go_loopg [4] n (fun g i wr => ∃ r : Nat, r ≤ n ∧ g = n - r ∧ i = .int .i64 r ∧ Copied w wr 2 n r (.int .i64 0) (fun j => .int .i64 (Z j)))
  case atStart => exact ⟨0, Nat.zero_le _, rfl, rfl, copied_start w 2 n _ _⟩
  case round =>
    obtain ⟨r, hr, rfl, rfl, hC⟩ := hrel
    by_cases hlt : r < n
    · obtain rfl := had (by omega)
      have hb : b < w.heap.size := World.block_lt_of_cell? _ _ (hc r hlt)
      have g0 : wr.cell? ⟨b, off + r, none⟩ = some (.int .i64 (Z r)) := by rw [hC.since.cell (a := ⟨b, off + r, none⟩) hb]; exact hc r hlt
      have g1 : wr.cell? ⟨w.heap.size, r, none⟩ = some (.int .i64 0) := by simpa using hC.row.cell hlt
      have g2 : wr.frozen? ⟨w.heap.size, r, none⟩ = false := hC.row.frozen r
      go_wp2
      go_roundg (n - (r + 1))
      case measure => go_light; omega
      case rel => go_light; exact ⟨r + 1, by omega, rfl, by simp, copied_step hC⟩
    · obtain rfl : r = n := by omega
      go_wp2
      go_ret
      exact ⟨rfl, hC⟩

set_option maxHeartbeats 400000 in
theorem clone6_nil (w : World) :
    Calls Eapg.prog 6 #[.slice none 0 0] w fun e w' => e = .returned (.slice none 0 0) ∧ w' = w := by
  have hnil := Go.Lib.run_eql_slice_nil (P := Eapg.prog) w 23 5 none 0 0 0 0 Eapg.underlying23
  go_enter Eapg.func6, Eapg.ntmps6
  go_wp2
  go_ret
  exact ⟨rfl, rfl⟩

set_option maxHeartbeats 400000 in
theorem clone6_some (ad : Addr) (b off n cap : Nat) (Z : Nat → Int) (w : World) (hn : n ≤ 1048576) (had : 0 < n → ad = ⟨b, off, none⟩)
    (hc : ∀ j, j < n → w.cell? ⟨b, off + j, none⟩ = some (.int .u8 (Z j))) :
    Calls Eapg.prog 6 #[.slice (some ad) n cap] w fun e w' => e = .returned (.slice (some ⟨w.heap.size, 0, none⟩) n n) ∧ Copied w w' 5 n n (.int .u8 0) (fun j => .int .u8 (Z j)) := by
  have hmk := run_make_row' (P := Eapg.prog) 23 5 (.int .u8 0) 1 Eapg.underlying23 Eapg.info5 rfl .i64 .i64 n (by omega) (by omega)
  have hnil := Go.Lib.run_eql_slice_nil (P := Eapg.prog) w 23 5 (some ad) n cap 0 0 Eapg.underlying23
  go_enter Eapg.func6, Eapg.ntmps6
  go_wp2
  clear hmk hnil
  go_loopg [4] n (fun g i wr => ∃ r : Nat, r ≤ n ∧ g = n - r ∧ i = .int .i64 r ∧ Copied w wr 5 n r (.int .u8 0) (fun j => .int .u8 (Z j)))
  case atStart => exact ⟨0, Nat.zero_le _, rfl, rfl, copied_start w 5 n _ _⟩
  case round =>
    obtain ⟨r, hr, rfl, rfl, hC⟩ := hrel
    by_cases hlt : r < n
    · obtain rfl := had (by omega)
      have hb : b < w.heap.size := World.block_lt_of_cell? _ _ (hc r hlt)
      have g0 : wr.cell? ⟨b, off + r, none⟩ = some (.int .u8 (Z r)) := by rw [hC.since.cell (a := ⟨b, off + r, none⟩) hb]; exact hc r hlt
      have g1 : wr.cell? ⟨w.heap.size, r, none⟩ = some (.int .u8 0) := by simpa using hC.row.cell hlt
      have g2 : wr.frozen? ⟨w.heap.size, r, none⟩ = false := hC.row.frozen r
      go_wp2
      go_roundg (n - (r + 1))
      case measure => go_light; omega
      case rel => go_light; exact ⟨r + 1, by omega, rfl, by simp, copied_step hC⟩
    · obtain rfl : r = n := by omega
      go_wp2
      go_ret
      exact ⟨rfl, hC⟩

/-- What a clone leaves: a nil slice, or a new block that holds the same. -/
structure Cloned (w w' : World) (t : TypeId) (n : Nat) (xo : Option Addr) (B : Nat) (Z : Nat → Value) : Prop where
  since : w.Since w.heap.size w'
  nil : xo = none → n = 0
  ad : 0 < n → xo = some ⟨B, 0, none⟩
  lo : 0 < n → w.heap.size ≤ B
  row : 0 < n → w'.rowIs B t n Z

theorem cloned_of_copied {w w' : World} {t : TypeId} {n : Nat} {z : Value} {Z : Nat → Value} (h : Copied w w' t n n z Z) : Cloned w w' t n (some ⟨w.heap.size, 0, none⟩) w.heap.size Z :=
  ⟨h.since, fun e => by simp at e, fun _ => rfl, fun _ => Nat.le_refl _, fun _ => h.row.congr (fun i hi => by rw [if_pos hi])⟩

theorem clone5_any (xo : Option Addr) (b off n cap : Nat) (Z : Nat → Int) (w : World) (hn : n ≤ 1048576) (hnil : xo = none → n = 0 ∧ cap = 0) (had : 0 < n → xo = some ⟨b, off, none⟩)
    (hc : ∀ j, j < n → w.cell? ⟨b, off + j, none⟩ = some (.int .i64 (Z j))) :
    Calls Eapg.prog 5 #[.slice xo n cap] w fun e w' => ∃ xo' B, e = .returned (.slice xo' n n) ∧ Cloned w w' 2 n xo' B (fun j => .int .i64 (Z j)) := by
  cases xo with
  | none =>
    obtain ⟨rfl, rfl⟩ := hnil rfl
    refine (clone5_nil w).mono ?_
    rintro e w' ⟨rfl, rfl⟩
    exact ⟨none, 0, rfl, World.Since.refl _ _, fun _ => rfl, fun h => absurd h (Nat.lt_irrefl 0), fun h => absurd h (Nat.lt_irrefl 0), fun h => absurd h (Nat.lt_irrefl 0)⟩
  | some ad =>
    refine (clone5_some ad b off n cap Z w hn (fun h => by simpa using had h) hc).mono ?_
    rintro e w' ⟨rfl, hC⟩
    exact ⟨_, _, rfl, cloned_of_copied hC⟩

theorem clone6_any (xo : Option Addr) (b off n cap : Nat) (Z : Nat → Int) (w : World) (hn : n ≤ 1048576) (hnil : xo = none → n = 0 ∧ cap = 0) (had : 0 < n → xo = some ⟨b, off, none⟩)
    (hc : ∀ j, j < n → w.cell? ⟨b, off + j, none⟩ = some (.int .u8 (Z j))) :
    Calls Eapg.prog 6 #[.slice xo n cap] w fun e w' => ∃ xo' B, e = .returned (.slice xo' n n) ∧ Cloned w w' 5 n xo' B (fun j => .int .u8 (Z j)) := by
  cases xo with
  | none =>
    obtain ⟨rfl, rfl⟩ := hnil rfl
    refine (clone6_nil w).mono ?_
    rintro e w' ⟨rfl, rfl⟩
    exact ⟨none, 0, rfl, World.Since.refl _ _, fun _ => rfl, fun h => absurd h (Nat.lt_irrefl 0), fun h => absurd h (Nat.lt_irrefl 0), fun h => absurd h (Nat.lt_irrefl 0)⟩
  | some ad =>
    refine (clone6_some ad b off n cap Z w hn (fun h => by simpa using had h) hc).mono ?_
    rintro e w' ⟨rfl, hC⟩
    exact ⟨_, _, rfl, cloned_of_copied hC⟩

end Go.Proofs.YoeapwDoor
