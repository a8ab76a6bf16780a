import Derived.Test.YoeapwDoorEasy
import Derived.Deep.RegionHeld3
namespace Go.Proofs.YoeapwDoor
open Go.RowKit

set_option maxHeartbeats 4000000 in
set_option maxRecDepth 1000000 in
theorem main_yes (xo yo : Option Addr) (bx ox bb oy n nc m mc : Nat) (k j : Int) (Z Y : Nat → Int) (a : Addr) (w : World)
    (h1 : (n : Int) + m ≤ 1048576) (h2 : (n : Int) ≤ 131072) (h3 : 8 * (n : Int) + m ≤ 1048576)
    (hxn : xo = none → n = 0 ∧ nc = 0) (hxa : 0 < n → xo = some ⟨bx, ox, none⟩) (hxc : ∀ i, i < n → w.cell? ⟨bx, ox + i, none⟩ = some (.int .i64 (Z i)))
    (hyn : yo = none → m = 0 ∧ mc = 0) (hya : 0 < m → yo = some ⟨bb, oy, none⟩) (hyc : ∀ i, i < m → w.cell? ⟨bb, oy + i, none⟩ = some (.int .u8 (Y i)))
    (hg : w.cell? ⟨0, 0, none⟩ = some (.iface 63 (.pointer (some a)))) :
    Calls Eapg.prog 3 #[.slice xo n nc, .slice yo m mc, .int .i64 k, .int .i64 j] w fun e w' => e = .returned (.bool true) ∧ w.Since w.heap.size w' := by
  have hmk := run_make_row' (P := Eapg.prog) 27 34 .nilIface 16 Eapg.underlying27 Eapg.info34 rfl .i64 .i64 n (by omega) (by omega)
  have C5 : Hid (Calls Eapg.prog 5 #[.slice xo n nc] w fun e w' => ∃ xo' B, e = .returned (.slice xo' n n) ∧ Cloned w w' 2 n xo' B (fun j => .int .i64 (Z j))) := clone5_any xo bx ox n nc Z w (by omega) hxn hxa hxc
  have C6 : Hid (∀ w1, w.Since w.heap.size w1 → Calls Eapg.prog 6 #[.slice yo m mc] w1 fun e w' => ∃ xo' B, e = .returned (.slice xo' m m) ∧ Cloned w1 w' 5 m xo' B (fun j => .int .u8 (Y j))) := fun w1 hs => clone6_any yo bb oy m mc Y w1 (by omega) hyn hya (fun i hi => since_cell hs (hyc i hi))
  clear hxn hxa hxc hyn hya hyc
  go_enter Eapg.func3, Eapg.ntmps3
  go_wp2_with fail
  refine (zzbytes_yes xo yo n nc m mc k j h1 _).mono ?_
  rintro e w' ⟨rfl, rfl⟩
  go_wp2_with fail
  refine C5.out.mono ?_
  rintro e w1 ⟨xo', BX, rfl, hX⟩
  clear C5
  have H1 : Hid (Cloned w' w1 2 n xo' BX (fun j => .int .i64 (Z j))) := hX
  clear hX
  go_wp2_with fail
  refine (C6.out w1 H1.out.since).mono ?_
  rintro e w2 ⟨yo', BY, rfl, hY⟩
  have H2 : Hid (Cloned w1 w2 5 m yo' BY (fun j => .int .u8 (Y j))) := hY
  clear hY C6
  have F2 : Hid (w'.Since w'.heap.size w2 ∧ w2.cell? ⟨0, 0, none⟩ = some (.iface 63 (.pointer (some a))) ∧ (∀ i, i < n → w2.cell? ⟨BX, i, none⟩ = some (.int .i64 (Z i))) ∧ (∀ i, i < m → w2.cell? ⟨BY, i, none⟩ = some (.int .u8 (Y i)))) :=
    have s2 := since_mono H1.out.since H1.out.since.size H2.out.since
    ⟨s2, since_cell s2 hg, fun i hi => since_cell H2.out.since ((H1.out.row (by omega)).cell hi), fun i hi => (H2.out.row (by omega)).cell hi⟩
  have F3 : Hid ((0 < n → xo' = some ⟨BX, 0, none⟩) ∧ (yo' = none → m = 0) ∧ (0 < m → yo' = some ⟨BY, 0, none⟩)) := ⟨H1.out.ad, H2.out.nil, H2.out.ad⟩
  clear H1 H2 hg
  go_wp2_with fail
  clear hmk
  go_loopg [10] n (fun g i wr => ∃ r : Nat, r ≤ n ∧ g = n - r ∧ i = .int .i64 r ∧ Filled w2 wr n r Z)
  case atStart => exact ⟨0, Nat.zero_le _, rfl, rfl, filled_start w2 n Z⟩
  case round =>
    obtain ⟨r, hr, rfl, rfl, hF⟩ := hrel
    by_cases hlt : r < n
    · obtain rfl := F3.out.1 (by omega)
      have hsize := hF.size
      have g0 : wr.cell? ⟨BX, r, none⟩ = some (.int .i64 (Z r)) := since_cell hF.since (F2.out.2.2.1 r hlt)
      have g1 : ∀ o, (wr.alloc o).cell? ⟨w2.heap.size, r, none⟩ = some .nilIface := fun o => by simpa using (hF.row.alloc o).cell hlt
      have g2 : ∀ o, (wr.alloc o).frozen? ⟨w2.heap.size, r, none⟩ = false := fun o => (hF.row.alloc o).frozen r
      go_wp2
      go_roundg (n - (r + 1))
      case measure => go_light; omega
      case rel => go_light; exact ⟨r + 1, by omega, rfl, by simp, filled_step hF⟩
    · obtain rfl : n = r := by omega
      have K : Hid (Know w' (wr.alloc (.cells #[.slice (some ⟨w2.heap.size, 0, none⟩) n n] 37)) (.iface 63 (.pointer (some a))) n m w2.heap.size BX BY wr.heap.size Z Y) :=
        know_of_filled F2.out.1 F2.out.2.1 F2.out.2.2.1 F2.out.2.2.2 hF
      have hp := partAt_37 (W := wr.alloc (.cells #[.slice (some ⟨w2.heap.size, 0, none⟩) n n] 37)) (heap_alloc_new wr _)
      clear hF F2
      go_wp2_with fail
      refine (indexSet_any _ _ _ (.pointer (some a)) _ ?_).mono ?_
      · exact ((K.out.alloc _).alloc _).glob
      rintro e wx ⟨rfl, rfl⟩
      go_wp2_with fail
      refine (isNot_same a _ ?_).mono ?_
      · exact ((K.out.alloc _).alloc _).glob
      rintro e wx ⟨rfl, rfl⟩
      clear hp
      go_wp2_with fail
      obtain ⟨O, hO⟩ : ∃ O, O = w2.heap.size := ⟨_, rfl⟩
      obtain ⟨A, hA⟩ : ∃ A, A = wr.heap.size := ⟨_, rfl⟩
      rw [← hO, ← hA] at K
      have K2 : Hid (Know w' (((wr.alloc (.cells #[.slice (some ⟨O, 0, none⟩) n n] 37)).alloc (.cells #[.int .i64 k] 32)).alloc (.cells #[.int .i64 j] 32)) (.iface 63 (.pointer (some a))) n m O BX BY A Z Y) := ((K.out.alloc _).alloc _)
      rw [← hO, ← hA]
      clear hO hA K
      go_loopg [12] n (fun g i wc => ∃ q : Nat, q ≤ n ∧ g = n - q ∧ i = .int .i64 q ∧ Know w' wc (.iface 63 (.pointer (some a))) n m O BX BY A Z Y)
      case atStart => exact ⟨0, Nat.zero_le _, rfl, rfl, K2.out⟩
      case round =>
        obtain ⟨q, hq, rfl, rfl, hK⟩ := hrel
        clear K2
        by_cases hlt : q < n
        · obtain rfl := F3.out.1 (by omega)
          have c1 := hK.ia
          have c2 := hK.row q hlt
          have c3 := hK.xs q hlt
          have c4 := hK.done q hlt
          have mE : ∀ (v : Value) (w : World), (Go.method 220 28 v "Equals").run Eapg.prog w = .ok (28, v) w := fun v w => by kernel_rfl
          go_wp2_with fail
          go_region_held3 (fun wz => wz.cell? ⟨A, 0, none⟩ = some (.slice (some ⟨O, 0, none⟩) n n) ∧ wz.cell? ⟨O, q, none⟩ = some (.iface 28 (.pointer (some ⟨O + 1 + q, 0, none⟩))) ∧ wz.cell? ⟨BX, q, none⟩ = some (.int .i64 (Z q)) ∧ wz.cell? ⟨O + 1 + q, 0, none⟩ = some (.int .i64 (Z q))) (go_keep)
            (first | (go_at_call 28; refine (equals28_same _ _ _ _ (Z q) _ ?_ ?_).mono ?_; (go_keep); (go_keep); rintro e wy ⟨rfl, kd, rfl⟩))
          clear c1 c2 c3 c4 mE
          go_wp2_with fail
          go_roundg (n - (q + 1))
          case measure => go_light; omega
          case rel => go_light; exact ⟨q + 1, by omega, rfl, by simp, (hK.alloc _).drewN _⟩
        · obtain rfl : n = q := by omega
          have F4 : Hid ((yo' = none → m = 0) ∧ (0 < m → yo' = some ⟨BY, 0, none⟩)) := F3.out.2
          have C6 : Hid (Calls Eapg.prog 6 #[.slice yo' m m] wr fun e wz => ∃ zo B, e = .returned (.slice zo m m) ∧ Cloned wr wz 5 m zo B (fun j => .int .u8 (Y j))) :=
            clone6_any yo' BY 0 m m Y wr (by omega) (fun e => ⟨F4.out.1 e, F4.out.1 e⟩) F4.out.2 (fun i hi => by rw [Nat.zero_add]; exact hK.ys i hi)
          clear F3
          have K3 : Hid (Know w' wr (.iface 63 (.pointer (some a))) n m O BX BY A Z Y) := hK
          clear hK
          go_wp2_with fail
          refine C6.out.mono ?_
          rintro e w3 ⟨zo, BB, rfl, hB⟩
          have K4 : Hid (Know w' w3 (.iface 63 (.pointer (some a))) n m O BX BY A Z Y) := K3.out.more hB.since
          have F5 : Hid ((0 < m → zo = some ⟨BB, 0, none⟩) ∧ (∀ i, i < m → w3.cell? ⟨BB, i, none⟩ = some (.int .u8 (Y i)))) := ⟨hB.ad, fun i hi => (hB.row (by omega)).cell hi⟩
          clear C6 K3 hB
          have hp := partAt_45 (W := w3.alloc (.cells #[.slice zo m m] 45)) (heap_alloc_new w3 _)
          go_wp2_with fail
          refine (indexSet_any _ _ _ (.pointer (some a)) _ ?_).mono ?_
          · exact (((K4.out.alloc _).alloc _).alloc _).glob
          rintro e wx ⟨rfl, rfl⟩
          go_wp2_with fail
          refine (isNot_same a _ ?_).mono ?_
          · exact (((K4.out.alloc _).alloc _).alloc _).glob
          rintro e wx ⟨rfl, rfl⟩
          clear hp
          go_wp2_with fail
          obtain ⟨C, hC⟩ : ∃ C, C = w3.heap.size := ⟨_, rfl⟩
          have K5 : Hid (KnowB w' (((w3.alloc (.cells #[.slice zo m m] 45)).alloc (.cells #[.int .i64 k] 32)).alloc (.cells #[.int .i64 j] 32)) (.iface 63 (.pointer (some a))) m BY BB C zo Y) := by
            rw [hC]; exact ((knowB_of K4.out F5.out.2).alloc _).alloc _
          rw [← hC]
          clear hC K4
          go_loopg [14] m (fun g i wc => ∃ t : Nat, t ≤ m ∧ g = m - t ∧ i = .int .i64 t ∧ KnowB w' wc (.iface 63 (.pointer (some a))) m BY BB C zo Y)
          case atStart => exact ⟨0, Nat.zero_le _, rfl, rfl, K5.out⟩
          case round =>
            obtain ⟨t, ht, rfl, rfl, hB⟩ := hrel
            clear K5
            by_cases hlt : t < m
            · obtain rfl := F4.out.2 (by omega)
              obtain rfl := F5.out.1 (by omega)
              have hltz : (t : Int) < (m : Int) := by omega
              have d1 := hB.bo
              have d2 := hB.bs t hlt
              have d3 := hB.ys t hlt
              go_wp2_with fail
              go_quiet (fail)
              clear d1 d2 d3
              go_wp2_with fail
              go_roundg (m - (t + 1))
              case measure => go_light; omega
              case rel => go_light; exact ⟨t + 1, by omega, rfl, by simp, hB.drewN _⟩
            · obtain rfl : m = t := by omega
              have hp := partAt_32 (W := wr.alloc (.cells #[.int .i64 k] 32)) (heap_alloc_new wr _)
              have K6 : Hid (KnowB w' wr (.iface 63 (.pointer (some a))) m BY BB C zo Y) := hB
              clear hB F4 F5
              go_wp2_with fail
              refine (indexSet_any _ _ _ (.pointer (some a)) _ ?_).mono ?_
              · exact (((K6.out.alloc _).alloc _).alloc _).glob
              rintro e wx ⟨rfl, rfl⟩
              go_wp2_with fail
              refine (isNot_same a _ ?_).mono ?_
              · exact (((K6.out.alloc _).alloc _).alloc _).glob
              rintro e wx ⟨rfl, rfl⟩
              clear hp
              go_wp2_with fail
              go_ret
              exact ⟨rfl, (((K6.out.alloc _).alloc _).alloc _).since⟩

end Go.Proofs.YoeapwDoor
