import Derived.Test.YoeapwDoorRows
import Derived.Test.YoeapwDoorTie
import Derived.Test.YoeapwDoorCards
import Derived.Test.YoeapwDoorLaid
namespace Go.Proofs.YoeapwDoor
open Go.ChangeShapes Go.WideShapes Go.ChangeAt Go.RowKit

/-- The door's own heap meets the condition: three closed facts. -/
theorem door_met (os : Os) (args : Array Value) : laidMetH Eapg.prog Rows.fnInheritedIndexSetRefusedAndHarmlessRow.laid ((World.doorLaid Eapg.prog 28 os).forCall (fun _ _ => 0) ⟨#[], args, []⟩).memory :=
  laidMetH_of_parts3 (fuel := 8) (laidMet_of_run' 8 (by kernel_rfl) (by kernel_rfl)) (by kernel_rfl) (by kernel_rfl)

set_option maxRecDepth 100000 in
theorem lifted (os : Os) (started : os.Started) (H : Type) (enc : TypeId × Value → H) :
    ReturnsInHanded {} Eapg.checked os 3 .any (fun w args => (Rows.fnInheritedIndexSetRefusedAndHarmlessSpec.pre enc Eapg.prog Eapg.f3 [] false w args ∧ laidMetH Eapg.prog Rows.fnInheritedIndexSetRefusedAndHarmlessRow.laid w) ∧ sizedMet enc Eapg.prog Eapg.f3 (OpenSpec.ofChange Rows.fnInheritedIndexSetRefusedAndHarmlessSpec) false w args)
      (Rows.fnInheritedIndexSetRefusedAndHarmlessSpec.post enc Eapg.prog Eapg.f3 false true false false) := by
  refine returnsInHanded_of_change_and (C := Eapg.checked) (X := fun w _ => laidMetH Eapg.prog Rows.fnInheritedIndexSetRefusedAndHarmlessRow.laid w) (fun _ _ _ hh h => h.of_heap hh) own started (by kernel_rfl) Eapg.func3
    (ChangeSpec.witness_shaped (enc := enc) (C := Eapg.checked) (os := os) (X := fun w _ => laidMetH Eapg.prog Rows.fnInheritedIndexSetRefusedAndHarmlessRow.laid w) false (World.doorLaid Eapg.prog 28 os) #[.slice none 0 0, .slice none 0 0, .int .i64 0, .int .i64 0] 8 rfl (World.shaped_of_RefB (by kernel_rfl) (by kernel_rfl)) (by kernel_rfl) (by kernel_rfl) (by kernel_rfl) (door_met os _)) ?_
  intro W base args ds gs before hval0 hW _ _ hL _
  have hval : ∀ (j : Nat) t v, Eapg.f3.params[j]? = some t → args[j]? = some v → Value.okWide Eapg.prog W .any base t v := hval0
  have hW' := hW
  obtain ⟨p, q, hA0, hV0, rfl, hfz, hnd⟩ := hW
  have hA : DataW.TrodAll enc Eapg.prog W 0 (fun _ => true) true Eapg.f3.params.toList args.toList ds p := hA0
  have hV : DataW.TrodVars enc Eapg.prog W (fun _ => true) [varName] gs q := hV0
  rw [Eapg.params3] at hA hval
  obtain ⟨v0, vs0, d0, ds0, p0, q0, hargs, rfl, rfl, h0, r0⟩ := trodAll_cons hA
  obtain ⟨v1, vs1, d1, ds1, p1, q1, rfl, rfl, rfl, h1, r1⟩ := trodAll_cons r0
  obtain ⟨v2, vs2, d2, ds2, p2, q2, rfl, rfl, rfl, h2, r2⟩ := trodAll_cons r1
  obtain ⟨v3, vs3, d3, ds3, p3, q3, rfl, rfl, rfl, h3, r3⟩ := trodAll_cons r2
  obtain ⟨rfl, rfl, rfl⟩ := trodAll_nil r3
  obtain rfl : args = #[v0, v1, v2, v3] := by cases args; simp_all
  obtain ⟨a, hv⟩ := of_laid hL
  obtain ⟨rfl, rfl⟩ := hV.unique (vars_read1 enc gVar tVar Eapg.underlying40 hv trivial _)
  have hg : W.cell? ⟨0, 0, none⟩ = some (.iface 63 (.pointer (some a))) := by simpa using World.var?_cell gVar hv 0
  have hpos : 0 < W.heap.size := World.block_lt_of_cell? _ _ hg
  obtain ⟨a0, len0, cap0, rfl⟩ := okWide_slice Eapg.underlying22 (hval 0 22 v0 rfl rfl)
  have k0 := h0
  have lt0 : ∀ x ∈ p0, x.block < W.heap.size := by obtain ⟨m, hm⟩ := k0; exact DataW.trod_lt m _ _ _ hm
  have w0 : IsRow .i64 W a0 len0 cap0 := by
    obtain ⟨fuel, hf⟩ := h0
    rcases open_ints Eapg.underlying22 Eapg.underlying2 (by kernel_rfl) hf with ⟨hcs, _⟩ | ⟨x, l, c, zs, hcs, _, hl, hm, hz, _, hcell, hwz⟩
    · simp [Value.cells] at hcs
      obtain ⟨rfl, rfl, rfl⟩ := hcs
      exact ⟨0, 0, fun _ => 0, fun _ => ⟨rfl, rfl⟩, fun h => absurd h (Nat.lt_irrefl 0), fun i hi => absurd hi (Nat.not_lt_zero i)⟩
    · simp [Value.cells] at hcs
      obtain ⟨rfl, rfl, rfl⟩ := hcs
      exact isRow_of hl (by simpa using hz) hcell
  obtain ⟨a1, len1, cap1, rfl⟩ := okWide_slice Eapg.underlying23 (hval 1 23 v1 rfl rfl)
  have k1 := h1
  have lt1 : ∀ x ∈ p1, x.block < W.heap.size := by obtain ⟨m, hm⟩ := k1; exact DataW.trod_lt m _ _ _ hm
  have w1 : IsRow .u8 W a1 len1 cap1 := by
    obtain ⟨fuel, hf⟩ := h1
    rcases open_ints Eapg.underlying23 Eapg.underlying5 (by kernel_rfl) hf with ⟨hcs, _⟩ | ⟨x, l, c, zs, hcs, _, hl, hm, hz, _, hcell, hwz⟩
    · simp [Value.cells] at hcs
      obtain ⟨rfl, rfl, rfl⟩ := hcs
      exact ⟨0, 0, fun _ => 0, fun _ => ⟨rfl, rfl⟩, fun h => absurd h (Nat.lt_irrefl 0), fun i hi => absurd hi (Nat.not_lt_zero i)⟩
    · simp [Value.cells] at hcs
      obtain ⟨rfl, rfl, rfl⟩ := hcs
      exact isRow_of hl (by simpa using hz) hcell
  obtain ⟨a2, rfl, rfl, rfl, w2⟩ := open_int Eapg.underlying2 (hval 2 2 v2 rfl rfl) h2
  obtain ⟨a3, rfl, rfl, rfl, w3⟩ := open_int Eapg.underlying2 (hval 3 2 v3 rfl rfl) h3
  clear hA0 hval0 hV0
  refine (walk a0 a1 len0 cap0 len1 cap1 a2 a3 a W w0 w1 hg).mono fun e W' ⟨he, bel⟩ => ?_
  subst he
  have hv' : W'.var? Eapg.prog varName = some #[.iface 63 (.pointer (some a))] := by
    rw [← hv]
    simp only [World.var?, gVar, Option.bind_some, bel.block 0 hpos]
  exact ⟨_, rfl, _, _, _, [], _, _, hW', trodAll_mk1 (shut_bool Eapg.underlying4 _),
    (trodAll_cons_mk (Below.trod laidOut (by kernel_rfl) (of_decide_eq_true (by kernel_rfl)) k0 bel lt0) (trodAll_cons_mk (Below.trod laidOut (by kernel_rfl) (of_decide_eq_true (by kernel_rfl)) k1 bel lt1) (trodAll_cons_mk (shut_int Eapg.underlying2 w2) (trodAll_cons_mk (shut_int Eapg.underlying2 w3) trodAll_mk0)))),
    vars_read1 enc gVar tVar Eapg.underlying40 hv' trivial _, bel.frame _, fun h => by cases h⟩

theorem over : Rows.FnInheritedIndexSetRefusedAndHarmlessSaid :=
  OpenClaim.holds_of_wide 3 Eapg.f3 rfl rfl rfl rfl rfl rfl rfl ⟨rfl, rfl, rfl, rfl, rfl⟩ rfl rfl rfl rfl rfl (by kernel_rfl) Eapg.func3 (by kernel_rfl)
    (of_decide_eq_true (by kernel_rfl)) (by unfold Func.isWrapper; first | (rw [if_pos (by decide +kernel)]; kernel_rfl) | (rw [if_neg (by decide +kernel)]; exact ⟨rfl, rfl⟩))
    (fun os started H enc _ => lifted os started H enc)

/-- THE TIED CARD. -/
theorem fnInheritedIndexSetRefusedAndHarmless_card_proved : Rows.FnInheritedIndexSetRefusedAndHarmlessCardSaid :=
  Claim7.holds_tied_plain_at .later [] [.called] true Rows.fnInheritedIndexSetRefusedAndHarmlessCard.stood.harness true
    over (fun _ h => by cases h) (by kernel_rfl) (fun _ h => by cases h) fnInheritedIndexSetRefusedAndHarmless_row_tie rfl ⟨rfl, rfl⟩ (by kernel_rfl) rfl
    (fun f fn hf hfn => by
      obtain rfl : f = 3 := Option.some.inj ((show Eapg.prog.funcNamed Rows.fnInheritedIndexSetRefusedAndHarmlessRow.func = some 3 by kernel_rfl).symm.trans hf) |>.symm
      obtain rfl : fn = Eapg.f3 := (Option.some.inj (Eapg.func3.symm.trans hfn)).symm
      exact ⟨by kernel_rfl, fun j t ht => by
        rw [Eapg.params3] at ht
        have hm : t ∈ [22, 23, 2, 2] := by simpa using Array.mem_of_getElem? ht
        have hall : ([22, 23, 2, 2].all fun u => !Eapg.prog.wantsStandIn u) = true := by kernel_rfl
        exact (show Eapg.prog.wantsStandIn t = false by simpa using List.all_eq_true.1 hall t hm)⟩)
    (by kernel_rfl)

end Go.Proofs.YoeapwDoor
