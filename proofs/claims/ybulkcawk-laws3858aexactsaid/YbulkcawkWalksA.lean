import Derived.Test.YbulkcawkProg
import Derived.Test.YbulkcawkPlainA
import Derived.WalkKit
namespace Go.Proofs.Ybulkcawk.PA
open Go.RowKit

theorem wrap_in (n : Int) (h1 : -9223372036854775808 ≤ n) (h2 : n ≤ 9223372036854775807) : wrap64 n = n := by
  simp only [wrap64]; omega

theorem ret_int {k : IntKind} {a b : Int} (h : a = b) : Ending.returned (.int k a) = .returned (.int k b) := by rw [h]

theorem ret_bool {a b : Bool} (h : a = b) : Ending.returned (.bool a) = .returned (.bool b) := by rw [h]

theorem val_int {k : IntKind} {a b : Int} (h : a = b) : Value.int k a = .int k b := by rw [h]

theorem two_bd (j : Nat) (h : j ≤ 60) : (2 : Int) ^ j ≤ 1152921504606846976 := by
  have := two_mono h; simpa using this

theorem two_bd20 (j : Nat) (h : j ≤ 20) : (2 : Int) ^ j ≤ 1048576 := by
  have := two_mono h; simpa using this

theorem phases_any (t : Int) (i : Nat) (hi : i ≤ 20) (h : IsLast t i) (w : World) :
    Calls Yba.prog 11 #[.int .i64 t] w fun e w' => e = .returned (.int .i64 (i + 1 : Nat)) ∧ w' = w := by
  obtain ⟨h1, h2⟩ := h
  go_enter Yba.func11, Yba.ntmps11
  go_wp2
  go_loop [3, 4] (fun p k => ∃ j : Nat, j ≤ i ∧ p = .int .i64 (j + 1 : Nat) ∧ k = .int .i64 (2 ^ j)) (fun p _ => i + 1 - (intOf p).toNat)
  case atStart => exact ⟨0, Nat.zero_le _, rfl, rfl⟩
  case round =>
    obtain ⟨j, hj, rfl, rfl⟩ := hrel
    have hp := two_pos j
    have hm := two_bd20 j (by omega)
    by_cases hlt : j < i
    · have := h2 j hlt
      go_wp2
      go_round
      case rel => exact ⟨j + 1, by omega, by go_num, val_int (by rw [two_succ]; omega)⟩
      case measure => simp [intOf]; omega
    · obtain rfl : j = i := by omega
      go_wp2
      go_ret
      exact ⟨rfl, rfl⟩

theorem guess_any (a : Int) (j : Nat) (w : World) (ha : a = (j : Int) + 1) (hj : j ≤ 60) :
    Calls Yba.prog 12 #[.int .i64 a] w fun e w' => e = .returned (.int .i64 (2 ^ j)) ∧ w' = w := by
  subst ha
  have hp := two_pos j
  have hm := two_bd j hj
  go_enter Yba.func12, Yba.ntmps12
  go_wp2
  go_ret
  exact ⟨rfl, rfl⟩

/-- StepRounds at the steps of a phase -/
def stepOf (s : Nat) (k : Int) : Int := if s = 2 ∨ s = 4 then 15 * k else 2

theorem step0_any (w : World) :
    Calls Yba.prog 17 #[.int .i64 0, .int .i64 0] w fun e w' => e = .returned (.int .i64 1) ∧ w' = w := by
  go_enter Yba.func17, Yba.ntmps17
  go_wp2
  go_ret
  exact ⟨rfl, rfl⟩

theorem phase_any (k : Int) (w : World) (h1 : 1 ≤ k) (h2 : k ≤ 1048576) :
    Calls Yba.prog 18 #[.int .i64 k] w fun e w' => e = .returned (.int .i64 (6 + 30 * k)) ∧ w' = w := by
  go_enter Yba.func18, Yba.ntmps18
  go_wp2
  refine wp_loop_rounds 6 ?_
  iterate 6 (rw [rounds_succ]; go_wp2)
  all_goals go_ret
  exact ⟨ret_int (by omega), rfl⟩

theorem end_any (a : Int) (j : Nat) (w : World) (ha : a = (j : Int)) (hj : j ≤ 21) :
    Calls Yba.prog 14 #[.int .i64 a] w fun e w' => e = .returned (.int .i64 (endOf j)) ∧ w' = w := by
  subst ha
  go_enter Yba.func14, Yba.ntmps14
  go_wp2_with (go_at_call 17; refine (step0_any _).mono ?_; rintro e w' ⟨rfl, rfl⟩)
  go_loop [3, 4] (fun r i => ∃ k : Nat, k ≤ j ∧ i = .int .i64 (k + 1 : Nat) ∧ r = .int .i64 (endOf k)) (fun _ i => j + 1 - (intOf i).toNat)
  case atStart => exact ⟨0, Nat.zero_le _, rfl, rfl⟩
  case round =>
    obtain ⟨k, hk, rfl, rfl⟩ := hrel
    have he0 := endOf_mono (Nat.zero_le k)
    have he1 := endOf_mono (show k ≤ 21 by omega)
    have e0 : endOf 0 = 1 := by decide
    have e1 : endOf 21 = 62914657 := by decide
    rw [e0] at he0
    rw [e1] at he1
    clear e0 e1
    have hp := two_pos k
    by_cases hlt : k < j
    · have hm := two_bd20 k (by omega)
      have HS : Hid (endOf (k + 1) = endOf k + (6 + 30 * 2 ^ k)) := endOf_succ k
      go_wp2_with (first | (go_at_call 12; refine (guess_any _ k _ (by omega) (by omega)).mono ?_; rintro e w' ⟨rfl, rfl⟩) | (go_at_call 18; refine (phase_any _ _ (by omega) (by omega)).mono ?_; rintro e w' ⟨rfl, rfl⟩))
      go_round
      case rel => exact ⟨k + 1, by omega, by go_num, val_int (by rw [HS.out])⟩
      case measure => simp [intOf]; omega
    · obtain rfl : k = j := by omega
      go_wp2
      go_ret
      exact ⟨rfl, rfl⟩


/-- Fits: is (2k+1)(3k+1) ≤ n? -/
def fitB (n k : Int) : Bool := decide ((2 * k + 1) * (3 * k + 1) ≤ n)

theorem fits_any (n k : Int) (w : World) (h1 : 1 ≤ k) (h2 : k ≤ 1048576) (n1 : -2199023255552 ≤ n) (n2 : n ≤ 2199023255552) :
    Calls Yba.prog 16 #[.int .i64 n, .int .i64 k] w fun e w' => e = .returned (.bool (fitB n k)) ∧ w' = w := by
  have hsp : -2199023255552 ≤ (n - 1).tdiv 3 ∧ (n - 1).tdiv 3 ≤ 2199023255552 := by
    rcases Int.le_total 0 (n - 1) with h | h
    · rw [Int.tdiv_eq_ediv_of_nonneg h]; omega
    · have e : (n - 1).tdiv 3 = -((1 - n).tdiv 3) := by rw [← Int.neg_tdiv]; congr 1; omega
      rw [e, Int.tdiv_eq_ediv_of_nonneg (by omega)]; omega
  by_cases hc : (n - 1).tdiv 3 < k
  · have H : Hid (fitB n k = false) := decide_eq_false (fits_no1 n k h1 hc)
    go_enter Yba.func16, Yba.ntmps16
    go_wp2
    go_ret
    exact ⟨ret_bool H.out.symm, rfl⟩
  · obtain ⟨p1, p2⟩ := fits_pos n k h1 hc
    have H : Hid (fitB n k = decide (2 * k + 1 ≤ n / (3 * k + 1))) := by
      unfold fitB; rw [decide_eq_decide]; exact (fits_two n k h1).symm
    go_enter Yba.func16, Yba.ntmps16
    go_wp2
    go_ret
    exact ⟨ret_bool H.out.symm, rfl⟩

theorem runs_any (n t k : Int) (w : World) (h1 : 1 ≤ k) (h2 : k ≤ 1048576) (n1 : -1099511627776 ≤ n) (n2 : n ≤ 1099511627777) (t1 : -1048576 ≤ t) (t2 : t ≤ 1048576) :
    Calls Yba.prog 13 #[.int .i64 n, .int .i64 t, .int .i64 k] w fun e w' => e = .returned (.bool (fitB (n - t - k) k)) ∧ w' = w := by
  go_enter Yba.func13, Yba.ntmps13
  go_wp2_with (go_at_call 16; refine (fits_any _ _ _ (by omega) (by omega) (by omega) (by omega)).mono ?_; rintro e w' ⟨rfl, rfl⟩)
  go_ret
  exact ⟨rfl, rfl⟩

theorem okB_yes {n t m : Int} {j : Nat} (h1 : m ≤ 2 ^ j) (h2 : fitB (n - t - 2 ^ j) (2 ^ j) = true) : okB n t m j = true := by
  simp only [fitB, decide_eq_true_eq] at h2; simp [okB, h1, h2]

theorem okB_no {n t m : Int} {j : Nat} (h2 : fitB (n - t - 2 ^ j) (2 ^ j) = false) : okB n t m j = false := by
  simp only [fitB, decide_eq_false_iff_not] at h2; simp [okB, h2]

theorem okB_no' {n t m : Int} {j : Nat} (h1 : ¬ m ≤ 2 ^ j) : okB n t m j = false := by
  simp [okB, h1]

theorem firstOk_hit {n t m : Int} {f j : Nat} (hf : 1 ≤ f) (h : okB n t m j = true) : firstOk n t m f j = j := by
  obtain ⟨f, rfl⟩ : ∃ g, f = g + 1 := ⟨f - 1, by omega⟩
  rw [firstOk, if_pos h]

theorem firstOk_miss {n t m : Int} {f j : Nat} (hf : 1 ≤ f) (h : okB n t m j = false) : firstOk n t m f j = firstOk n t m (f - 1) (j + 1) := by
  obtain ⟨f, rfl⟩ : ∃ g, f = g + 1 := ⟨f - 1, by omega⟩
  rw [firstOk, if_neg (by simp [h])]; rfl

set_option maxHeartbeats 400000 in
theorem decided_any (n t m : Int) (i : Nat) (w : World) (hi : i ≤ 20) (h : IsLast t i) (n1 : -1099511627776 ≤ n) (n2 : n ≤ 1099511627777) (t1 : -1048576 ≤ t) (t2 : t ≤ 1048576) :
    Calls Yba.prog 6 #[.int .i64 n, .int .i64 t, .int .i64 m] w fun e w' => e = .returned (.int .i64 (dec n t m i)) ∧ w' = w := by
  have HL : Hid (IsLast t i) := h
  clear h
  go_enter Yba.func6, Yba.ntmps6
  go_wp2_with (go_at_call 11; refine (phases_any _ i hi HL.out _).mono ?_; rintro e w' ⟨rfl, rfl⟩)
  go_loop [8] (fun a => ∃ j : Nat, j ≤ i ∧ a = .int .i64 (j + 1 : Nat) ∧ Hid (firstOk n t m i 0 = firstOk n t m (i - j) j)) (fun a => i + 1 - (intOf a).toNat)
  case atStart => exact ⟨0, Nat.zero_le _, rfl, rfl⟩
  case round =>
    obtain ⟨j, hj, rfl, HF⟩ := hrel
    have hp := two_pos j
    have hm := two_bd20 j (by omega)
    by_cases hlt : j < i
    · by_cases c1 : m ≤ 2 ^ j
      · by_cases c2 : fitB (n - t - 2 ^ j) (2 ^ j) = true
        · have HR : Hid (dec n t m i = endOf (j + 1)) := by
            show dec n t m i = endOf (j + 1)
            unfold dec; rw [HF.out, firstOk_hit (by omega) (okB_yes c1 c2)]
          go_wp2_with (first | (go_at_call 12; refine (guess_any _ j _ (by omega) (by omega)).mono ?_; rintro e w' ⟨rfl, rfl⟩) | (go_at_call 13; refine (runs_any _ _ _ _ (by omega) (by omega) (by omega) (by omega) (by omega) (by omega)).mono ?_; rintro e w' ⟨rfl, rfl⟩) | (go_at_call 14; refine (end_any _ (j + 1) _ (by omega) (by omega)).mono ?_; rintro e w' ⟨rfl, rfl⟩))
          go_ret
          exact ⟨ret_int HR.out.symm, rfl⟩
        · have c2 : fitB (n - t - 2 ^ j) (2 ^ j) = false := by simpa using c2
          have HR : Hid (firstOk n t m i 0 = firstOk n t m (i - (j + 1)) (j + 1)) := by
            show firstOk n t m i 0 = firstOk n t m (i - (j + 1)) (j + 1)
            rw [HF.out, firstOk_miss (by omega) (okB_no c2)]; rfl
          go_wp2_with (first | (go_at_call 12; refine (guess_any _ j _ (by omega) (by omega)).mono ?_; rintro e w' ⟨rfl, rfl⟩) | (go_at_call 13; refine (runs_any _ _ _ _ (by omega) (by omega) (by omega) (by omega) (by omega) (by omega)).mono ?_; rintro e w' ⟨rfl, rfl⟩) | (go_at_call 14; refine (end_any _ (j + 1) _ (by omega) (by omega)).mono ?_; rintro e w' ⟨rfl, rfl⟩))
          go_round
          case rel => exact ⟨j + 1, by omega, by go_num, HR⟩
          case measure => simp [intOf]; omega
      · have HR : Hid (firstOk n t m i 0 = firstOk n t m (i - (j + 1)) (j + 1)) := by
          show firstOk n t m i 0 = firstOk n t m (i - (j + 1)) (j + 1)
          rw [HF.out, firstOk_miss (by omega) (okB_no' c1)]; rfl
        go_wp2_with (first | (go_at_call 12; refine (guess_any _ j _ (by omega) (by omega)).mono ?_; rintro e w' ⟨rfl, rfl⟩))
        go_round
        case rel => exact ⟨j + 1, by omega, by go_num, HR⟩
        case measure => simp [intOf]; omega
    · obtain rfl : j = i := by omega
      have HR : Hid (dec n t m j = endOf (j + 1)) := by
        show dec n t m j = endOf (j + 1)
        unfold dec; rw [HF.out, Nat.sub_self]; rfl
      go_wp2_with (go_at_call 14; refine (end_any _ (j + 1) _ (by omega) (by omega)).mono ?_; rintro e w' ⟨rfl, rfl⟩)
      go_ret
      exact ⟨ret_int HR.out.symm, rfl⟩

theorem fit_bd (n t k : Int) (j : Nat) (hk : k = 2 ^ j) : fitB (n - t - 2 ^ j) (2 ^ j) = decide ((2 * k + 1) * (3 * k + 1) ≤ n - t - k) := by
  subst hk; rfl

set_option maxHeartbeats 400000 in
theorem model_any (n t m : Int) (i : Nat) (w : World) (hi : i ≤ 20) (h : IsLast t i) (n1 : -1099511627776 ≤ n) (n2 : n ≤ 1099511627776) (t1 : -1048576 ≤ t) (t2 : t ≤ 1048576) :
    Calls Yba.prog 7 #[.int .i64 n, .int .i64 t, .int .i64 m] w fun e w' => e = .returned (.int .i64 (dec n t m i)) ∧ w' = w := by
  have HL : Hid (IsLast t i) := h
  clear h
  go_enter Yba.func7, Yba.ntmps7
  go_wp2
  go_loop [7] (fun a => ∃ j : Nat, j ≤ i ∧ a = .int .i64 (j + 1 : Nat)) (fun a => i + 1 - (intOf a).toNat)
  case atStart => exact ⟨0, Nat.zero_le _, rfl⟩
  case round =>
    obtain ⟨j, hj, rfl⟩ := hrel
    have hp := two_pos j
    have hm := two_bd20 j (by omega)
    by_cases hlt : j < i
    · have hq := HL.out.2 j hlt
      go_wp2
      go_round
      case rel => exact ⟨j + 1, by omega, by go_num⟩
      case measure => simp [intOf]; omega
    · obtain rfl : j = i := by omega
      have hq := HL.out.1
      go_wp2
      go_loop [8] (fun a => ∃ q : Nat, q ≤ j ∧ a = .int .i64 (q + 1 : Nat) ∧ Hid (firstOk n t m j 0 = firstOk n t m (j - q) q)) (fun a => j + 1 - (intOf a).toNat)
      case atStart => exact ⟨0, Nat.zero_le _, rfl, rfl⟩
      case round =>
        obtain ⟨q, hq', rfl, HF⟩ := hrel
        have hpq := two_pos q
        have hmq := two_bd20 q (by omega)
        by_cases hlt : q < j
        · have hpr := prod_bd (2 ^ q) hpq hmq
          by_cases c1 : m ≤ 2 ^ q
          · by_cases c2 : (2 * 2 ^ q + 1) * (3 * 2 ^ q + 1) ≤ n - t - 2 ^ q
            · have HR : Hid (dec n t m j = endOf (q + 1)) := by
                show dec n t m j = endOf (q + 1)
                unfold dec; rw [HF.out, firstOk_hit (by omega) (okB_yes c1 (decide_eq_true c2))]
              go_wp2
              go_ret
              exact ⟨ret_int (by rw [HR.out]; unfold endOf; rw [two_succ]; omega), rfl⟩
            · have HR : Hid (firstOk n t m j 0 = firstOk n t m (j - (q + 1)) (q + 1)) := by
                show firstOk n t m j 0 = firstOk n t m (j - (q + 1)) (q + 1)
                rw [HF.out, firstOk_miss (by omega) (okB_no (decide_eq_false c2))]; rfl
              go_wp2
              go_round
              case rel => exact ⟨q + 1, by omega, by go_num, HR⟩
              case measure => simp [intOf]; omega
          · have HR : Hid (firstOk n t m j 0 = firstOk n t m (j - (q + 1)) (q + 1)) := by
              show firstOk n t m j 0 = firstOk n t m (j - (q + 1)) (q + 1)
              rw [HF.out, firstOk_miss (by omega) (okB_no' c1)]; rfl
            go_wp2
            go_round
            case rel => exact ⟨q + 1, by omega, by go_num, HR⟩
            case measure => simp [intOf]; omega
        · obtain rfl : q = j := by omega
          have HR : Hid (dec n t m q = endOf (q + 1)) := by
            show dec n t m q = endOf (q + 1)
            unfold dec; rw [HF.out, Nat.sub_self]; rfl
          have h2 := two_succ q
          have h3 : (2 : Int) ^ (q + 1) ≤ 2097152 := by omega
          have h4 := two_pos (q + 1)
          clear h2
          go_wp2
          go_ret
          exact ⟨ret_int (by rw [HR.out]; unfold endOf; omega), rfl⟩

end Go.Proofs.Ybulkcawk.PA
