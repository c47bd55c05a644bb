/-
  A PROOF OF Rows.LawS3858CStateCardSaid (conciliate.LawS3858CState, the tied card).
-/
import Derived.Test.YbulkcawkDoorRows
import Derived.Test.YbulkcawkDoorTie
import Derived.Test.YbulkcawkDoorCards
import Derived.Test.YbulkcawkDoorOpen
import Derived.Test.YbulkcawkDoorState
import Derived.SevenTiedAt
import Derived.Stop.Joined
import Derived.OpenVars
import Derived.Lay
namespace Go.Proofs.YbulkcawkDoor.lawS3858CState
open Go.ChangeShapes Go.WideShapes Go.ChangeAt Go.RowKit D

set_option maxRecDepth 100000 in
theorem lifted (os : Os) (started : os.Started) (H : Type) (enc : TypeId × Value → H) :
    ReturnsInHanded {} Ybad.checked os 4 .any (fun w args => (Rows.lawS3858CStateSpec.pre enc Ybad.prog Ybad.f4 [] false w args ∧ laidMetH Ybad.prog Rows.lawS3858CStateRow.laid w) ∧ sizedMet enc Ybad.prog Ybad.f4 (OpenSpec.ofChange Rows.lawS3858CStateSpec) false w args)
      (Rows.lawS3858CStateSpec.post enc Ybad.prog Ybad.f4 false true false false) := by
  refine returnsInHanded_of_change_and (C := Ybad.checked) (X := fun w _ => laidMetH Ybad.prog Rows.lawS3858CStateRow.laid w) (fun _ _ _ hh h => h.of_heap hh) own started (by kernel_rfl) Ybad.func4
    (ChangeSpec.witness_shaped (enc := enc) (C := Ybad.checked) (os := os) (X := fun w _ => laidMetH Ybad.prog Rows.lawS3858CStateRow.laid w) false (World.laidAll Ybad.prog os Rows.lawS3858CStateRow.laid) #[.slice none 0 0, .slice none 0 0, .slice none 0 0, .slice none 0 0] 8 (World.laidAll_os _ _ _)
      (World.shaped_of_ZipB (by kernel_rfl) (by kernel_rfl)) (by kernel_rfl) (by kernel_rfl) (by kernel_rfl)
      (by rw [MakeChecks.laidMetH_plain _ _ _ (by kernel_rfl)]; exact laidMet_laidAll _ (by kernel_rfl) (by kernel_rfl))) ?_
  intro W base args ds gs before hval0 hW _ hsz0 hL _
  have hsz : (DataW.weightsEach Ybad.prog (Ybad.f4.params.toList ++ Rows.lawS3858CStateSpec.plain.varTypes Ybad.prog) (ds ++ gs)).all (· ≤ reachBytes) = true := hsz0
  have hval : ∀ (j : Nat) t v, Ybad.f4.params[j]? = some t → args[j]? = some v → Value.okWide Ybad.prog W .any base t v := hval0
  have hW' := hW
  obtain ⟨p, q, hA0, hV, rfl, hfz, hnd⟩ := hW
  have hA : DataW.TrodAll enc Ybad.prog W 0 (fun _ => true) true Ybad.f4.params.toList args.toList ds p := hA0
  rw [Ybad.params4] at hA hval hsz
  obtain ⟨v0, vs0, d0, ds0, p0, q0, hargs, rfl, rfl, h0, r0⟩ := trodAll_cons hA
  obtain ⟨v1, vs1, d1, ds1, p1, q1, rfl, rfl, rfl, h1, r1⟩ := trodAll_cons r0
  obtain ⟨v2, vs2, d2, ds2, p2, q2, rfl, rfl, rfl, h2, r2⟩ := trodAll_cons r1
  obtain ⟨v3, vs3, d3, ds3, p3, q3, rfl, rfl, rfl, h3, r3⟩ := trodAll_cons r2
  obtain ⟨rfl, rfl, rfl⟩ := trodAll_nil r3
  obtain rfl : args = #[v0, v1, v2, v3] := by cases args; simp_all
  obtain ⟨g, t, cs, fuel, dg, pg, rfl, hg1, hg2, hg3, hg4, hq⟩ := trodVars_one hV
  obtain ⟨a0, len0, cap0, rfl⟩ := okWide_slice Ybad.underlying22 (hval 0 22 v0 rfl rfl)
  obtain ⟨a1, len1, cap1, rfl⟩ := okWide_slice Ybad.underlying23 (hval 1 23 v1 rfl rfl)
  obtain ⟨a2, len2, cap2, rfl⟩ := okWide_slice Ybad.underlying24 (hval 2 24 v2 rfl rfl)
  obtain ⟨a3, len3, cap3, rfl⟩ := okWide_slice Ybad.underlying25 (hval 3 25 v3 rfl rfl)
  have lt0 : ∀ x ∈ p0, x.block < W.heap.size := by obtain ⟨m, hm⟩ := h0; exact DataW.trod_lt m _ _ _ hm
  have lt1 : ∀ x ∈ p1, x.block < W.heap.size := by obtain ⟨m, hm⟩ := h1; exact DataW.trod_lt m _ _ _ hm
  have lt2 : ∀ x ∈ p2, x.block < W.heap.size := by obtain ⟨m, hm⟩ := h2; exact DataW.trod_lt m _ _ _ hm
  have lt3 : ∀ x ∈ p3, x.block < W.heap.size := by obtain ⟨m, hm⟩ := h3; exact DataW.trod_lt m _ _ _ hm
  obtain ⟨f0, i0, b0⟩ := ints_in Ybad.underlying22 Ybad.underlying21 cells21 h0
  obtain ⟨qs, i1⟩ := lists_in h1 (fun n hn => of_decide_eq_true (List.all_eq_true.1 hsz _ (DataW.weights_mem_each (j := 1) (t := 23) rfl rfl n hn)))
  obtain ⟨f2, i2⟩ := bools_in h2
  obtain ⟨f3, i3, b3⟩ := ints_in Ybad.underlying25 Ybad.underlying49 cells49 h3
  obtain ⟨n0, n1⟩ := node_of_laid hL
  clear hA0 hval0
  refine (state_any a0 a1 a2 a3 len0 cap0 len1 cap1 len2 cap2 len3 cap3 f0 f3 qs f2 W i0 (fun j hj => bounds_i32 (b0 j hj)) i1 i2 i3 (fun j hj => bounds_u16 (b3 j hj)) n0 n1).mono fun e W' ⟨he, bel⟩ => ?_
  subst he
  have hV' := Below.trodVars (enc := enc) laidOut bel (by kernel_rfl) hV
  exact ⟨_, rfl, _, _, _, [], _, _, hW', trodAll_mk1 (shut_bool Ybad.underlying4 _), (trodAll_cons_mk (Below.trod laidOut (by kernel_rfl) (of_decide_eq_true (by kernel_rfl)) h0 bel lt0) (trodAll_cons_mk (Below.trod laidOut (by kernel_rfl) (of_decide_eq_true (by kernel_rfl)) h1 bel lt1) (trodAll_cons_mk (Below.trod laidOut (by kernel_rfl) (of_decide_eq_true (by kernel_rfl)) h2 bel lt2) (trodAll_cons_mk (Below.trod laidOut (by kernel_rfl) (of_decide_eq_true (by kernel_rfl)) h3 bel lt3) trodAll_mk0)))), hV', bel.frame _, fun h => by cases h⟩

theorem over : Rows.lawS3858CStateRow.holds Ybad.pinned (OpenSpec.ofChange Rows.lawS3858CStateSpec) :=
  OpenClaim.holds_of_wide 4 Ybad.f4 rfl rfl rfl rfl rfl rfl rfl ⟨rfl, rfl, rfl, rfl, rfl⟩ rfl rfl rfl rfl rfl (by kernel_rfl) Ybad.func4 (by kernel_rfl)
    (of_decide_eq_true (by kernel_rfl)) (by unfold Func.isWrapper; first | (rw [if_pos (by decide +kernel)]; kernel_rfl) | (rw [if_neg (by decide +kernel)]; exact ⟨rfl, rfl⟩))
    (fun os started H enc _ => lifted os started H enc)
theorem params_few : ∀ (j : Nat) (t : TypeId), Ybad.f4.params[j]? = some t → Ybad.prog.wantsStandIn t = false := by
  intro j t ht
  rw [Ybad.params4] at ht
  have h4 : t = 22 ∨ t = 23 ∨ t = 24 ∨ t = 25 := by
    rcases j with _ | _ | _ | _ | j
    · left; simpa using ht.symm
    · right; left; simpa using ht.symm
    · right; right; left; simpa using ht.symm
    · right; right; right; simpa using ht.symm
    · simp at ht
  rcases h4 with rfl | rfl | rfl | rfl
  · exact (show Ybad.prog.wantsStandIn 22 = false by kernel_rfl)
  · exact (show Ybad.prog.wantsStandIn 23 = false by kernel_rfl)
  · exact (show Ybad.prog.wantsStandIn 24 = false by kernel_rfl)
  · exact (show Ybad.prog.wantsStandIn 25 = false by kernel_rfl)

/-- THE STATEMENT -/
theorem proved : Rows.LawS3858CStateCardSaid :=
  Claim7.holds_tied_plain_at .later [] [.data] true Rows.lawS3858CStateCard.stood.harness true
    over (fun _ h => by cases h) (by kernel_rfl) (fun _ h => by cases h) lawS3858CState_row_tie rfl ⟨rfl, rfl⟩ (by kernel_rfl) rfl
    (fun f fn hf hfn => by
      obtain rfl : f = 4 := Option.some.inj ((show Ybad.prog.funcNamed Rows.lawS3858CStateRow.func = some 4 by kernel_rfl).symm.trans hf) |>.symm
      obtain rfl : fn = Ybad.f4 := (Option.some.inj (Ybad.func4.symm.trans hfn)).symm
      exact ⟨by kernel_rfl, params_few⟩)
    (by kernel_rfl)
end Go.Proofs.YbulkcawkDoor.lawS3858CState
