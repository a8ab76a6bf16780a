import Derived.Test.YoeapwDoorClone
namespace Go.Proofs.YoeapwDoor
open Go.RowKit

theorem since_mono {w wr w' : World} {B : Nat} (h : w.Since B wr) (hB : B ≤ wr.heap.size) (k : wr.Since wr.heap.size w') : w.Since B w' :=
  h.trans ⟨k.os, k.tape, k.output, k.size, fun i hi => k.block i (by omega)⟩

theorem since_cell {w w' : World} (h : w.Since w.heap.size w') {a : Addr} {v : Value} (hc : w.cell? a = some v) : w'.cell? a = some v :=
  (h.cell (World.block_lt_of_cell? _ _ hc)).trans hc

theorem since_drewN (w : World) (k : Nat) : w.Since w.heap.size (w.drewN k) := ⟨rfl, rfl, rfl, Nat.le_refl _, fun _ _ => rfl⟩

/-- 'objs', r of its n places filled, each with a new Int. -/
structure Filled (w wr : World) (n r : Nat) (Z : Nat → Int) : Prop where
  since : w.Since w.heap.size wr
  size : wr.heap.size = w.heap.size + 1 + r
  row : wr.rowIs w.heap.size 34 n (fun i => if i < r then .iface 28 (.pointer (some ⟨w.heap.size + 1 + i, 0, none⟩)) else .nilIface)
  done : ∀ i, i < r → wr.cell? ⟨w.heap.size + 1 + i, 0, none⟩ = some (.int .i64 (Z i))

theorem filled_start (w : World) (n : Nat) (Z : Nat → Int) : Filled w (w.alloc (.cells (madeCells #[.nilIface] n) 34)) n 0 Z :=
  ⟨(World.Since.refl _ _).alloc (Nat.le_refl _) _, by simp, (World.rowIs_made w _ n 34).congr (fun j _ => by simp), fun i hi => absurd hi (Nat.not_lt_zero _)⟩

theorem filled_step {w wr : World} {n r : Nat} {Z : Nat → Int} (h : Filled w wr n r Z) :
    Filled w ((wr.alloc (.cells #[.int .i64 (Z r)] 32)).setCell ⟨w.heap.size, r, none⟩ (.iface 28 (.pointer (some ⟨w.heap.size + 1 + r, 0, none⟩)))) n (r + 1) Z := by
  refine ⟨(h.since.alloc (by rw [h.size]; omega) _).setCell (Nat.le_refl _) _, by simp [h.size]; omega, ((h.row.alloc _).set r _).congr (fun i _ => ?_), fun i hi => ?_⟩
  · by_cases e : i = r
    · subst e; simp
    · rw [if_neg e]
      by_cases hlt : i < r
      · rw [if_pos hlt, if_pos (by omega)]
      · rw [if_neg hlt, if_neg (by omega)]
  · rw [World.cell?_setCell_other _ _ _ _ (fun e => by have := congrArg Addr.block e; simp at this; omega)]
    by_cases e : i = r
    · subst e
      have hn := World.rowIs_alloc wr #[.int .i64 (Z i)] 32 (fun _ => .int .i64 (Z i)) (fun j hj => by simp at hj; subst hj; rfl)
      rw [h.size] at hn
      exact hn.cell (i := 0) (by simp)
    · exact since_cell ((World.Since.refl _ _).alloc (Nat.le_refl _) _) (h.done i (by omega))

/-- What is known of memory behind the filling: it stays known as long as only new blocks are laid. -/
structure Know (w wr : World) (g : Value) (n m O BX BY A : Nat) (Z Y : Nat → Int) : Prop where
  since : w.Since w.heap.size wr
  glob : wr.cell? ⟨0, 0, none⟩ = some g
  ia : wr.cell? ⟨A, 0, none⟩ = some (.slice (some ⟨O, 0, none⟩) n n)
  row : ∀ i, i < n → wr.cell? ⟨O, i, none⟩ = some (.iface 28 (.pointer (some ⟨O + 1 + i, 0, none⟩)))
  done : ∀ i, i < n → wr.cell? ⟨O + 1 + i, 0, none⟩ = some (.int .i64 (Z i))
  xs : ∀ i, i < n → wr.cell? ⟨BX, i, none⟩ = some (.int .i64 (Z i))
  ys : ∀ i, i < m → wr.cell? ⟨BY, i, none⟩ = some (.int .u8 (Y i))

theorem Know.more {w wr w' : World} {g : Value} {n m O BX BY A : Nat} {Z Y : Nat → Int} (h : Know w wr g n m O BX BY A Z Y) (k : wr.Since wr.heap.size w') : Know w w' g n m O BX BY A Z Y :=
  ⟨since_mono h.since h.since.size k, since_cell k h.glob, since_cell k h.ia, fun i hi => since_cell k (h.row i hi), fun i hi => since_cell k (h.done i hi), fun i hi => since_cell k (h.xs i hi), fun i hi => since_cell k (h.ys i hi)⟩

theorem Know.alloc {w wr : World} {g : Value} {n m O BX BY A : Nat} {Z Y : Nat → Int} (h : Know w wr g n m O BX BY A Z Y) (o : Obj) : Know w (wr.alloc o) g n m O BX BY A Z Y :=
  h.more ((World.Since.refl _ _).alloc (Nat.le_refl _) _)

theorem Know.drewN {w wr : World} {g : Value} {n m O BX BY A : Nat} {Z Y : Nat → Int} (h : Know w wr g n m O BX BY A Z Y) (k : Nat) : Know w (wr.drewN k) g n m O BX BY A Z Y :=
  h.more (since_drewN _ _)

theorem Know.drew {w wr : World} {g : Value} {n m O BX BY A : Nat} {Z Y : Nat → Int} (h : Know w wr g n m O BX BY A Z Y) : Know w wr.drew g n m O BX BY A Z Y :=
  h.more ((World.Since.refl _ _).drew)

/-- Behind 'ia := &ImmutableArray{Value: objs}'. -/
theorem know_of_filled {w w2 wr : World} {g : Value} {n m BX BY : Nat} {Z Y : Nat → Int} (h2 : w.Since w.heap.size w2) (hg : w2.cell? ⟨0, 0, none⟩ = some g)
    (hx : ∀ i, i < n → w2.cell? ⟨BX, i, none⟩ = some (.int .i64 (Z i))) (hy : ∀ i, i < m → w2.cell? ⟨BY, i, none⟩ = some (.int .u8 (Y i))) (h : Filled w2 wr n n Z) :
    Know w (wr.alloc (.cells #[.slice (some ⟨w2.heap.size, 0, none⟩) n n] 37)) g n m w2.heap.size BX BY wr.heap.size Z Y := by
  have k : w2.Since w2.heap.size (wr.alloc (.cells #[.slice (some ⟨w2.heap.size, 0, none⟩) n n] 37)) := h.since.alloc h.since.size _
  have ka : wr.Since wr.heap.size (wr.alloc (.cells #[.slice (some ⟨w2.heap.size, 0, none⟩) n n] 37)) := (World.Since.refl _ _).alloc (Nat.le_refl _) _
  have hn := World.rowIs_alloc wr #[.slice (some ⟨w2.heap.size, 0, none⟩) n n] 37 (fun _ => .slice (some ⟨w2.heap.size, 0, none⟩) n n) (fun j hj => by simp at hj; subst hj; rfl)
  exact ⟨since_mono h2 h2.size k, since_cell k hg, hn.cell (i := 0) (by simp), fun i hi => since_cell ka (by have := h.row.cell hi; rwa [if_pos hi] at this), fun i hi => since_cell ka (h.done i hi),
    fun i hi => since_cell k (hx i hi), fun i hi => since_cell k (hy i hi)⟩

/-- What is known behind 'bo := &Bytes{Value: cloneBytes(b)}'. -/
structure KnowB (w wr : World) (g : Value) (m BY BB C : Nat) (zo : Option Addr) (Y : Nat → Int) : Prop where
  since : w.Since w.heap.size wr
  glob : wr.cell? ⟨0, 0, none⟩ = some g
  bo : wr.cell? ⟨C, 0, none⟩ = some (.slice zo m m)
  bs : ∀ i, i < m → wr.cell? ⟨BB, i, none⟩ = some (.int .u8 (Y i))
  ys : ∀ i, i < m → wr.cell? ⟨BY, i, none⟩ = some (.int .u8 (Y i))

theorem KnowB.more {w wr w' : World} {g : Value} {m BY BB C : Nat} {zo : Option Addr} {Y : Nat → Int} (h : KnowB w wr g m BY BB C zo Y) (k : wr.Since wr.heap.size w') : KnowB w w' g m BY BB C zo Y :=
  ⟨since_mono h.since h.since.size k, since_cell k h.glob, since_cell k h.bo, fun i hi => since_cell k (h.bs i hi), fun i hi => since_cell k (h.ys i hi)⟩

theorem KnowB.alloc {w wr : World} {g : Value} {m BY BB C : Nat} {zo : Option Addr} {Y : Nat → Int} (h : KnowB w wr g m BY BB C zo Y) (o : Obj) : KnowB w (wr.alloc o) g m BY BB C zo Y :=
  h.more ((World.Since.refl _ _).alloc (Nat.le_refl _) _)

theorem KnowB.drewN {w wr : World} {g : Value} {m BY BB C : Nat} {zo : Option Addr} {Y : Nat → Int} (h : KnowB w wr g m BY BB C zo Y) (k : Nat) : KnowB w (wr.drewN k) g m BY BB C zo Y :=
  h.more (since_drewN _ _)

theorem knowB_of {w w3 : World} {g : Value} {n m O BX BY A BB : Nat} {zo : Option Addr} {Z Y : Nat → Int} (h : Know w w3 g n m O BX BY A Z Y) (hb : ∀ i, i < m → w3.cell? ⟨BB, i, none⟩ = some (.int .u8 (Y i))) :
    KnowB w (w3.alloc (.cells #[.slice zo m m] 45)) g m BY BB w3.heap.size zo Y := by
  have k : w3.Since w3.heap.size (w3.alloc (.cells #[.slice zo m m] 45)) := (World.Since.refl _ _).alloc (Nat.le_refl _) _
  have hn := World.rowIs_alloc w3 #[.slice zo m m] 45 (fun _ => .slice zo m m) (fun j hj => by simp at hj; subst hj; rfl)
  exact ⟨since_mono h.since h.since.size k, since_cell k h.glob, hn.cell (i := 0) (by simp), fun i hi => since_cell k (hb i hi), fun i hi => since_cell k (h.ys i hi)⟩

end Go.Proofs.YoeapwDoor
