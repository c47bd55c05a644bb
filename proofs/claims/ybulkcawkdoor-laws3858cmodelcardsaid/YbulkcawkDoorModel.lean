import Derived.Test.YbulkcawkDoorStart
namespace Go.Proofs.YbulkcawkDoor.D
open Go.RowKit

set_option maxRecDepth 100000 in
theorem model_big (av al ab ta : Option Addr) (n cv m cl mb cb tn tc : Nat) (w : World) (h : 300 < n ∨ 300 < tn) :
    Calls Ybad.prog 3 #[.slice av n cv, .slice al m cl, .slice ab mb cb, .slice ta tn tc] w fun e w' => e = .returned (.bool true) ∧ Below w.heap.size w w' := by
  have HH := hide h
  clear h
  go_enter Ybad.func3, Ybad.ntmps3
  go_wp2_with (go_at_call 5; refine (guard_big av al n cv m cl tn tc ta _ HH.out).mono ?_; rintro e w' ⟨rfl, hw'⟩; rw [hw']; clear hw')
  go_ret
  exact ⟨rfl, Below.refl _ _⟩

set_option maxRecDepth 100000 in
theorem model_many (av al ab ta : Option Addr) (n cv m cl mb cb tn tc : Nat) (q : Lst) (w : World) (hn : n ≤ 300) (ht : tn ≤ 300) (hL : LRow w al m q) (h : 4096 < total q (min m n)) :
    Calls Ybad.prog 3 #[.slice av n cv, .slice al m cl, .slice ab mb cb, .slice ta tn tc] w fun e w' => e = .returned (.bool true) ∧ Below w.heap.size w w' := by
  have HH : Hid (decide (4096 < total q (min m n)) = true) := decide_eq_true h
  have HL := hide hL
  clear h hL
  go_enter Ybad.func3, Ybad.ntmps3
  go_wp2_with (go_at_call 5; refine (guard_no av al n cv m cl tn tc ta q _ hn ht HL.out).mono ?_; rintro e w' ⟨rfl, hw'⟩; rw [hw']; clear hw'; rw [HH.out])
  go_ret
  exact ⟨rfl, Below.refl _ _⟩

set_option maxRecDepth 100000 in
theorem model_zero (av al ab ta : Option Addr) (cv m cl mb cb tn tc : Nat) (vs : Nat → Int) (q : Lst) (bs : Nat → Bool) (w : World) (ht : tn ≤ 300) (hI : Ins w av al ab 0 m mb vs q bs) (h : ¬ 4096 < total q (min m 0)) :
    Calls Ybad.prog 3 #[.slice av 0 cv, .slice al m cl, .slice ab mb cb, .slice ta tn tc] w fun e w' => e = .returned (.bool true) ∧ Below w.heap.size w w' := by
  have HH : Hid (decide (4096 < total q (min m 0)) = false) := decide_eq_false h
  have HI := hide hI
  clear h hI
  go_enter Ybad.func3, Ybad.ntmps3
  go_wp2_with (first
    | (go_at_call 5; refine (guard_no av al 0 cv m cl tn tc ta q _ (Nat.zero_le _) ht HI.out.L).mono ?_; rintro e w' ⟨rfl, hw'⟩; rw [hw']; clear hw'; rw [HH.out])
    | (go_at_call 6; refine (build_any av al ab 0 cv m cl mb cb vs q bs _ HI.out.hn HI.out.big HI.out.V HI.out.L HI.out.B HI.out.g0 HI.out.g1).mono ?_; rintro e w2 ⟨p, hpg, hpn, rfl, hb, hG⟩; have HG := hide hG; have HP := hide (And.intro hpg hpn); have HB := hide hb; clear hG hpg hpn hb)
    | (go_at_call 7; refine (sr_any p _ _ _ _ none 0 0 (fun _ => 0) _ (Nat.zero_le _) (fun j hj => absurd hj (Nat.not_lt_zero _)) (core0 _ HI.out.hn) (vis0 _) (fun j hj => absurd hj (Nat.not_lt_zero _)) (fun b off e => by cases e) (val_lim HI.out.vw) HG.out).mono ?_; rintro e w3 ⟨rfl, hS⟩; have HS := hide hS; clear hS))
  go_ret
  obtain ⟨_, _, _, _, _, _, _, _, _, _, _, _, _, hB⟩ := HS.out.open
  refine ⟨rfl, HB.out.trans (hB.below HB.out.size (fun k e => ?_))⟩
  have := HP.out
  rcases e with e | e <;> omega

set_option maxRecDepth 100000 in
set_option maxHeartbeats 1600000 in
theorem model_some (av al ab ta : Option Addr) (n cv m cl mb cb tn tc : Nat) (vs f : Nat → Int) (q : Lst) (bs : Nat → Bool) (w : World) (h0 : 0 < n) (ht : tn ≤ 300) (hI : Ins w av al ab n m mb vs q bs) (h : ¬ 4096 < total q (min m n)) (hf : ∀ j, j < tn → 0 ≤ f j ∧ f j ≤ 65535) (hT : IRow .u16 w ta tn f) :
    Calls Ybad.prog 3 #[.slice av n cv, .slice al m cl, .slice ab mb cb, .slice ta tn tc] w fun e w' => e = .returned (.bool true) ∧ Below w.heap.size w w' := by
  have HH : Hid (decide (4096 < total q (min m n)) = false) := decide_eq_false h
  have HI := hide hI
  have HF := hide hf
  have HT := hide hT
  have hn := hI.hn
  have HZ : Hid (∀ j, j < tn → (f j).toNat % n < n) := fun j _ => Nat.mod_lt _ h0
  clear h hI hf hT
  go_enter Ybad.func3, Ybad.ntmps3
  go_wp2_with (first
    | (go_at_call 5; refine (guard_no av al n cv m cl tn tc ta q _ hn ht HI.out.L).mono ?_; rintro e w' ⟨rfl, hw'⟩; rw [hw']; clear hw'; rw [HH.out])
    | (go_at_call 8; refine (targets_in HI.out h0 tc ht HF.out HT.out).mono ?_; rintro e w1 ⟨rfl, h1⟩; have H1 := hide h1; clear h1)
    | (go_at_call 6; refine (build_in cv cl cb HI.out H1.out).mono ?_; rintro e w2 ⟨p, rfl, h2⟩; have H2 := hide h2; clear h2)
    | (go_at_call 7; refine (sr_in HI.out ht HZ.out H2.out).mono ?_; rintro e w3 ⟨ob, rfl, h3⟩; have H3 := hide h3; clear h3))
  clear HH HF HT H1 H2
  go_loopw [51] (fun i wr => ∃ k : Nat, k ≤ tn ∧ i = .int .i64 k ∧ Hid (Below w3.heap.size w3 wr)) (fun i _ => tn - (intOf i).toNat)
  case atStart => exact ⟨0, Nat.zero_le _, rfl, Below.refl _ _⟩
  case round =>
    obtain ⟨k, hk, rfl, HB⟩ := hrel
    by_cases hkt : k < tn
    · obtain ⟨rank, small, ranked, out, _, _, _, _, _, ho, hO⟩ := H3.out.fini
      have c1 : wr.cell? ⟨w.heap.size, k, none⟩ = some (.int .i64 (((f k).toNat % n : Nat) : Int)) := (HB.out.cell (H3.out.row.lt)).trans (H3.out.row.cell hkt)
      have c2 : w3.cell? ⟨ob, k, none⟩ = some (.int .i64 (out k)) := ho.cell hkt
      have HM := hide (hO k hkt)
      have hz := HZ.out k hkt
      have HI1 := hide (HI.out.keep ((Keep.below H3.out.bel).trans (Keep.below HB.out)))
      have HVL : Hid (∀ v, v < (grOf n vs m q bs mb).n → -2147483648 ≤ (grOf n vs m q bs mb).val v ∧ (grOf n vs m q bs mb).val v ≤ 2147483647) := val_lim HI.out.vw
      have hlm := min_lim (g := grOf n vs m q bs mb) hz HM.out HVL.out
      obtain ⟨l1, l2⟩ := hlm
      have HC2 := hide c2
      have HOB := hide ho.lt
      clear ho hO c2
      generalize (f k).toNat % n = z at c1 HM hz
      generalize out k = x at HC2 HM l1 l2
      go_wp2_with (go_at_call 9; refine (creach_any av al ab n cv m cl mb cb vs q bs z _ hn hz HI1.out.big HI1.out.V HI1.out.L HI1.out.B HI1.out.g1).mono ?_; rintro e w4 ⟨best, rfl, hb4, hmin, _⟩; obtain rfl := T.IsMin.unique HM.out hmin; have HB4 := hide hb4; have c2 := ((HB.out.trans (HB4.out.mono HB.out.size)).cell (p := ⟨ob, k, none⟩) HOB.out).trans HC2.out; clear hb4 hmin)
      go_roundw
      case rel => exact ⟨k + 1, by omega, by go_num, HB.out.trans (HB4.out.mono HB.out.size)⟩
      case measure => simp [intOf]; omega
    · go_wp2
      go_ret
      exact ⟨rfl, H3.out.bel.trans (HB.out.mono H3.out.bel.size)⟩
theorem model_any (av al ab ta : Option Addr) (n cv m cl mb cb tn tc : Nat) (vs f : Nat → Int) (q : Lst) (bs : Nat → Bool) (w : World) (hV : IRow .i32 w av n vs) (hvw : ∀ j, j < n → -2147483648 ≤ vs j ∧ vs j ≤ 2147483647) (hL : LRow w al m q) (hB : BRow w ab mb bs) (hT : IRow .u16 w ta tn f) (hf : ∀ j, j < tn → 0 ≤ f j ∧ f j ≤ 65535)
    (g0 : w.cell? ⟨0, 0, none⟩ = some (.int .i32 2147483647)) (g1 : w.cell? ⟨0, 1, none⟩ = some (.int .i32 2147483647)) :
    Calls Ybad.prog 3 #[.slice av n cv, .slice al m cl, .slice ab mb cb, .slice ta tn tc] w fun e w' => e = .returned (.bool true) ∧ Below w.heap.size w w' := by
  by_cases h : 300 < n ∨ 300 < tn
  · exact model_big av al ab ta n cv m cl mb cb tn tc w h
  · by_cases h2 : 4096 < total q (min m n)
    · exact model_many av al ab ta n cv m cl mb cb tn tc q w (by omega) (by omega) hL h2
    · have hI : Ins w av al ab n m mb vs q bs := ⟨by omega, big_of h2, hV, hvw, hL, hB, g0, g1⟩
      by_cases hn : n = 0
      · subst hn
        exact model_zero av al ab ta cv m cl mb cb tn tc vs q bs w (by omega) hI h2
      · exact model_some av al ab ta n cv m cl mb cb tn tc vs f q bs w (by omega) (by omega) hI h2 hf hT
end Go.Proofs.YbulkcawkDoor.D
