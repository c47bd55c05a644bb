import Derived.Test.YbulkcawkDoorUnion
namespace Go.Proofs.YbulkcawkDoor.D
open Go.RowKit

set_option maxRecDepth 100000 in
theorem state_big (av al ab ta : Option Addr) (n cv m cl mb cb tn tc : Nat) (w : World) (h : 300 < n ∨ 300 < tn) :
    Calls Ybad.prog 4 #[.slice av n cv, .slice al m cl, .slice ab mb cb, .slice ta tn tc] w fun e w' => e = .returned (.bool true) ∧ Below w.heap.size w w' := by
  have HH := hide h
  clear h
  go_enter Ybad.func4, Ybad.ntmps4
  go_wp2_with (go_at_call 5; refine (guard_big av al n cv m cl tn tc ta _ HH.out).mono ?_; rintro e w' ⟨rfl, hw'⟩; rw [hw']; clear hw')
  go_ret
  exact ⟨rfl, Below.refl _ _⟩

set_option maxRecDepth 100000 in
theorem state_many (av al ab ta : Option Addr) (n cv m cl mb cb tn tc : Nat) (q : Lst) (w : World) (hn : n ≤ 300) (ht : tn ≤ 300) (hL : LRow w al m q) (h : 4096 < total q (min m n)) :
    Calls Ybad.prog 4 #[.slice av n cv, .slice al m cl, .slice ab mb cb, .slice ta tn tc] w fun e w' => e = .returned (.bool true) ∧ Below w.heap.size w w' := by
  have HH : Hid (decide (4096 < total q (min m n)) = true) := decide_eq_true h
  have HL := hide hL
  clear h hL
  go_enter Ybad.func4, Ybad.ntmps4
  go_wp2_with (go_at_call 5; refine (guard_no av al n cv m cl tn tc ta q _ hn ht HL.out).mono ?_; rintro e w' ⟨rfl, hw'⟩; rw [hw']; clear hw'; rw [HH.out])
  go_ret
  exact ⟨rfl, Below.refl _ _⟩

set_option maxRecDepth 100000 in
theorem state_zero (av al ab ta : Option Addr) (cv m cl mb cb tn tc : Nat) (q : Lst) (w : World) (ht : tn ≤ 300) (hL : LRow w al m q) (h : ¬ 4096 < total q (min m 0)) :
    Calls Ybad.prog 4 #[.slice av 0 cv, .slice al m cl, .slice ab mb cb, .slice ta tn tc] w fun e w' => e = .returned (.bool true) ∧ Below w.heap.size w w' := by
  have HH : Hid (decide (4096 < total q (min m 0)) = false) := decide_eq_false h
  have HL := hide hL
  clear h hL
  go_enter Ybad.func4, Ybad.ntmps4
  go_wp2_with (go_at_call 5; refine (guard_no av al 0 cv m cl tn tc ta q _ (Nat.zero_le _) ht HL.out).mono ?_; rintro e w' ⟨rfl, hw'⟩; rw [hw']; clear hw'; rw [HH.out])
  go_ret
  exact ⟨rfl, Below.refl _ _⟩

set_option maxRecDepth 100000 in
set_option maxHeartbeats 3200000 in
theorem state_some (av al ab ta : Option Addr) (n cv m cl mb cb tn tc : Nat) (vs f : Nat → Int) (q : Lst) (bs : Nat → Bool) (w : World) (h0 : 0 < n) (ht : tn ≤ 300) (hI : Ins w av al ab n m mb vs q bs) (h : ¬ 4096 < total q (min m n)) (hf : ∀ j, j < tn → 0 ≤ f j ∧ f j ≤ 65535) (hT : IRow .u16 w ta tn f) :
    Calls Ybad.prog 4 #[.slice av n cv, .slice al m cl, .slice ab mb cb, .slice ta tn tc] w fun e w' => e = .returned (.bool true) ∧ Below w.heap.size w w' := by
  have hmk := run_make_row' (P := Ybad.prog) 24 4 (.bool false) 1 Ybad.underlying24 info4 rfl .i64 .i64 n (by have := hI.hn; omega) (by have := hI.hn; omega)
  have HH : Hid (decide (4096 < total q (min m n)) = false) := decide_eq_false h
  have HI := hide hI
  have HF := hide hf
  have HT := hide hT
  have hn := hI.hn
  have HZ : Hid (∀ j, j < tn → (f j).toNat % n < n) := fun j _ => Nat.mod_lt _ h0
  clear h hI hf hT
  go_enter Ybad.func4, Ybad.ntmps4
  go_wp2_with (first
    | (go_at_call 5; refine (guard_no av al n cv m cl tn tc ta q _ hn ht HI.out.L).mono ?_; rintro e w' ⟨rfl, hw'⟩; rw [hw']; clear hw'; rw [HH.out])
    | (go_at_call 8; refine (targets_in HI.out h0 tc ht HF.out HT.out).mono ?_; rintro e w1 ⟨rfl, h1⟩; have H1 := hide h1; clear h1)
    | (go_at_call 6; refine (build_in cv cl cb HI.out H1.out).mono ?_; rintro e w2 ⟨p, rfl, h2⟩; have H2 := hide h2; clear h2)
    | (go_at_call 7; refine (sr_in HI.out ht HZ.out H2.out).mono ?_; rintro e w3 ⟨ob, rfl, h3⟩; have H3 := hide h3; clear h3; obtain ⟨rank, small, ranked, out, ⟨pa, pc, fa, fc, hdy⟩, hst, hC, hV, hR, _, _⟩ := H3.out.fini; have HDY := hide hdy; have HST := hide hst; have HC := hide hC; have HV := hide hV; have HR := hide hR; clear hst hC hV hR; have d3 := hdy.c3; have d4 := hdy.c4; clear hdy))
  obtain ⟨g, hgr⟩ : ∃ g, g = grOf n vs m q bs mb := ⟨_, rfl⟩
  rw [← hgr] at HDY HST HC HV
  have HG := hide hgr
  have hgn : g.n = n := by rw [hgr]; rfl
  clear hgr
  obtain ⟨ts, hts⟩ : ∃ ts : Nat → Nat, ts = fun j => (f j).toNat % n := ⟨_, rfl⟩
  have HTS : Hid (∀ j, j < tn → w3.cell? ⟨w.heap.size, j, none⟩ = some (.int .i64 ((ts j : Nat) : Int))) := fun j hj => by rw [hts]; exact H3.out.row.cell hj
  have HB3 : Hid (Below w.heap.size w w3) := H3.out.bel
  have HLT : Hid (w.heap.size < w3.heap.size) := H3.out.row.lt
  have HZ' : Hid (∀ j, j < tn → ts j < n) := fun j hj => by rw [hts]; exact HZ.out j hj
  have HV' : Hid (T.Vis g rank (fun u => ∃ j, j < tn ∧ u = ts j)) := by rw [hts]; exact HV.out
  have HR' : Hid (∀ j, j < tn → rank (ts j) ≠ 0) := by rw [hts]; exact HR.out
  have HL0 := hide (L1.start w3 g ts)
  rw [hgn] at HL0
  clear HH HF HT H1 H2 H3 HZ HV HR hts
  generalize w3.alloc (.cells (madeCells #[.bool false] n) 4) = w40 at HL0 ⊢
  clear d3 d4 hmk
  go_loopw [60] (fun i wr => ∃ k : Nat, k ≤ tn ∧ i = .int .i64 k ∧ ∃ un, Hid (L1 w3 g ts k un wr)) (fun i _ => tn - (intOf i).toNat)
  case atStart => exact ⟨0, Nat.zero_le _, rfl, _, HL0⟩
  case round =>
    obtain ⟨k, hk, rfl, un, HL⟩ := hrel
    clear HL0
    by_cases hkt : k < tn
    · have c1 : wr.cell? ⟨w.heap.size, k, none⟩ = some (.int .i64 ((ts k : Nat) : Int)) := (HL.out.bel.cell HLT.out).trans (HTS.out k hkt)
      have hz := HZ'.out k hkt
      have HKP : Hid (Keep w wr) := (Keep.below HB3.out).trans (Keep.below HL.out.bel)
      have HI1 := hide (HI.out.keep HKP.out)
      obtain ⟨pB, hpB⟩ : ∃ pB, pB = absB bs mb (ts k) := ⟨_, rfl⟩
      have HHE : Hid (g.here (ts k) = !pB) := by rw [HG.out, hpB]; rfl
      have HP := hide hpB
      clear hpB
      obtain ⟨z, hz0⟩ : ∃ z, z = ts k := ⟨_, rfl⟩
      rw [← hz0] at c1 hz HP
      have HZ0 := hide hz0
      clear hz0
      cases pB with
      | true =>
        have HE := hide (HL.out.skip HHE.out)
        go_wp2_with (go_at_call 10; refine (absent_any ab mb cb bs z _ _ rfl HI1.out.B).mono ?_; rintro e w' ⟨rfl, hw'⟩; rw [hw']; clear hw'; rw [← HP.out])
        go_roundw
        case rel => exact ⟨k + 1, by omega, by go_num, _, HE⟩
        case measure => simp [intOf]; omega
      | false =>
        go_wp2_with (first
          | (go_at_call 10; refine (absent_any ab mb cb bs z _ _ rfl HI1.out.B).mono ?_; rintro e w' ⟨rfl, hw'⟩; rw [hw']; clear hw'; rw [← HP.out])
          | (go_at_call 9; refine (creach_any av al ab n cv m cl mb cb vs q bs z _ hn hz HI1.out.big HI1.out.V HI1.out.L HI1.out.B HI1.out.g1).mono ?_; rintro e w4 ⟨best, rfl, hb4, _, seen, hse, hsr⟩; have HB4 := hide hb4; have HSE := hide hse; have HSR := hide hsr; clear hb4 hse hsr))
        rw [← HG.out] at HSR
        have HL20 : Hid (L2 w3 g un seen wr.heap.size 0 w4) := L2.start HL.out HB4.out (by rw [hgn]; exact HSE.out)
        obtain ⟨sb, hsb⟩ : ∃ sb, sb = wr.heap.size := ⟨_, rfl⟩
        rw [← hsb] at HL20 ⊢
        clear hsb HB4 HSE c1
        go_loopw [17] (fun i wr => ∃ i' : Nat, i' ≤ n ∧ i = .int .i64 i' ∧ Hid (L2 w3 g un seen sb i' wr)) (fun i _ => n - (intOf i).toNat)
        case atStart => exact ⟨0, Nat.zero_le _, rfl, HL20⟩
        case round =>
          obtain ⟨i, hi, rfl, H2⟩ := hrel
          clear HL20
          by_cases hin : i < n
          · have c1 := H2.out.srow.cell (i := i) (by omega)
            have HBR := hide (HI.out.B.keep ((Keep.below HB3.out).trans (Keep.below H2.out.bel)))
            cases hs : seen i with
            | false =>
              rw [hs] at c1
              have HE := hide (H2.out.skip (by simp [hs]))
              go_wp2
              go_roundw
              case rel => exact ⟨i + 1, by omega, by go_num, HE⟩
              case measure => simp [intOf]; omega
            | true =>
              rw [hs] at c1
              obtain ⟨pB, hpB⟩ : ∃ pB, pB = absB bs mb i := ⟨_, rfl⟩
              have HHI : Hid (g.here i = !pB) := by rw [HG.out, hpB]; rfl
              have HPI := hide hpB
              clear hpB
              cases pB with
              | true =>
                have HE := hide (H2.out.skip (by rw [HHI.out]; simp))
                go_wp2_with (go_at_call 10; refine (absent_any ab mb cb bs i _ _ rfl HBR.out).mono ?_; rintro e w' ⟨rfl, hw'⟩; rw [hw']; clear hw'; rw [← HPI.out])
                go_roundw
                case rel => exact ⟨i + 1, by omega, by go_num, HE⟩
                case measure => simp [intOf]; omega
              | false =>
                have HE := hide (H2.out.mark (by rw [hs, HHI.out]; rfl))
                have c2 := H2.out.row.cell (i := i) (by omega)
                have c3 := H2.out.row.frozen
                go_wp2_with (go_at_call 10; refine (absent_any ab mb cb bs i _ _ rfl HBR.out).mono ?_; rintro e w' ⟨rfl, hw'⟩; rw [hw']; clear hw'; rw [← HPI.out])
                go_roundw
                case rel => exact ⟨i + 1, by omega, by go_num, HE⟩
                case measure => simp [intOf]; omega
          · go_wp2
            go_roundw
            case rel =>
              obtain rfl : i = n := by omega
              have h2 := H2.out
              rw [← hgn] at h2
              exact ⟨k + 1, by omega, by go_num, _, h2.whole HL.out HHE.out (fun v hv => by rw [← HZ0.out]; exact HSR.out v (by omega))⟩
            case measure => simp [intOf]; omega
    · obtain rfl : k = tn := by omega
      have HL3 := hide (L3.start HL.out HDY.out HST.out)
      have HUN : Hid (∀ i, i < n → g.here i = true → (un i = true ↔ rank i ≠ 0)) := fun i hi hh => (HL.out.says i (by omega)).trans (un_rank HC.out HV'.out HR'.out (fun j hj => by rw [hgn]; exact HZ'.out j hj) (by omega) hh)
      have HAL : Hid (∀ i, i < n → rank i = 0 ∧ g.here i = true ∨ rank i = 2147483647) := fun i hi => by
        rcases HC.out.all i (by omega) with a | a | a
        · cases a
        · exact Or.inl a
        · exact Or.inr a
      have HCN : Hid (upto g rank n = ranked) := by rw [← hgn]; exact HC.out.cnt.symm
      clear HL HDY HST HC HV' HR' HZ' HTS HLT hkt hk
      go_wp2
      go_loopw [18, 19] (fun c i wr => ∃ i' : Nat, i' ≤ n ∧ i = .int .i64 i' ∧ c = .int .i32 ((upto g rank i' : Nat) : Int) ∧ Hid (L3 w3 p g rank ranked un wr)) (fun _ i _ => n - (intOf i).toNat)
      case atStart => exact ⟨0, Nat.zero_le _, rfl, rfl, HL3⟩
      case round =>
        obtain ⟨i, hi, rfl, rfl, H3⟩ := hrel
        clear HL3
        have hupl := upto_le g rank i
        by_cases hin : i < n
        · have HAT := hide (H3.out.at (i := i) (by omega))
          have HKP : Hid (Keep w wr) := (Keep.below HB3.out).trans (Keep.below H3.out.bel)
          have HBR := hide (HI.out.B.keep HKP.out)
          have HUP := hide (upto_succ g rank i)
          have e1 := HAT.out.c1
          have e2 := HAT.out.rk
          rw [hgn] at e1
          obtain ⟨pB, hpB⟩ : ∃ pB, pB = absB bs mb i := ⟨_, rfl⟩
          have HHI : Hid (g.here i = !pB) := by rw [HG.out, hpB]; rfl
          have HPI := hide hpB
          clear hpB
          cases pB with
          | true =>
            have hrm : rank i = 2147483647 := by
              rcases HAL.out i hin with a | a
              · rw [HHI.out] at a; cases a.2
              · exact a
            rw [hrm] at e2
            have HU2 : Hid (upto g rank (i + 1) = upto g rank i) := by unfold Hid; rw [HUP.out, HHI.out]; simp
            clear hrm
            go_wp2_with (go_at_call 10; refine (absent_any ab mb cb bs i _ _ rfl HBR.out).mono ?_; rintro e w' ⟨rfl, hw'⟩; rw [hw']; clear hw'; rw [← HPI.out])
            go_roundw
            case rel => exact ⟨i + 1, by omega, by go_num, by rw [HU2.out], H3⟩
            case measure => simp [intOf]; omega
          | false =>
            have hhi : g.here i = true := HHI.out
            have e3 := HAT.out.un
            have e4 := HAT.out.c0
            have e5 := HAT.out.sent hhi
            have e6 := HAT.out.lis hhi
            rw [hgn] at e4
            have hui := HUN.out i hin hhi
            have hmil : (g.ids i) = if i < m then (List.range (q.l i)).map (q.id i) else [] := by rw [HG.out]; rfl
            have hli : ∃ (wl : Nat) (wf : Nat → Int), wl ≤ 4096 ∧ (i < m → wl = q.l i ∧ wf = q.id i) ∧ (¬ i < m → wl = 0) ∧ g.ids i = (List.range wl).map wf := by
              by_cases e : i < m
              · exact ⟨q.l i, q.id i, HI.out.big i hin e, fun _ => ⟨rfl, rfl⟩, fun h => absurd e h, by rw [hmil, if_pos e]⟩
              · exact ⟨0, fun _ => 0, by omega, fun h => absurd h e, fun _ => rfl, by rw [hmil, if_neg e]; rfl⟩
            obtain ⟨wl, wf, hwl, hwm, hwn, hwi⟩ := hli
            have HWI := hide hwi
            obtain ⟨hll, _⟩ := H3.out.ids (by omega) hhi hwi
            rw [hll] at e6
            have HGA : Hid (∀ wr, L3 w3 p g rank ranked un wr → IRow .i32 wr (p.la i) wl wf) := fun wr h => (h.ids (by omega) hhi HWI.out).2
            obtain ⟨ga, hga⟩ : ∃ ga, ga = p.la i := ⟨_, rfl⟩
            rw [← hga] at e6 HGA
            clear hga hll hwi hmil
            have HHH := hide hhi
            clear hhi
            cases hu : un i with
            | true =>
              rw [hu] at e3
              have hrm : rank i = 2147483647 := by
                rcases HAL.out i hin with a | a
                · exact absurd a.1 (hui.1 hu)
                · exact a
              have HU2 : Hid (upto g rank (i + 1) = upto g rank i + 1) := by unfold Hid; rw [HUP.out, HHI.out, hrm]; simp
              rw [hrm] at e2
              have HWR0 : Hid (i < m → IRow .i32 w (q.a i) wl wf) := fun e => by obtain ⟨rfl, rfl⟩ := hwm e; exact (HI.out.L i e).2.2.2.1
              by_cases hm : i < m
              · have HWR := hide (HWR0.out hm)
                obtain ⟨⟨bl, ol, rfl, hcl⟩, _, _, _, _⟩ := (HI.out.L.keep HKP.out) i hm
                rw [← (hwm hm).1] at hcl
                obtain ⟨wa, hwa⟩ : ∃ wa, wa = q.a i := ⟨_, rfl⟩
                rw [← hwa] at hcl HWR
                clear hwa HWR0 hwm hwn
                go_wp2_with (go_at_call 10; refine (absent_any ab mb cb bs i _ _ rfl HBR.out).mono ?_; rintro e w' ⟨rfl, hw'⟩; rw [hw']; clear hw'; rw [← HPI.out])
                clear e1 e2 e3 e4 e5 e6 hcl
                go_loopw [151] (fun x wr => ∃ j : Nat, j ≤ wl ∧ x = .int .i64 j ∧ Hid (L3 w3 p g rank ranked un wr)) (fun x _ => wl - (intOf x).toNat)
                case atStart => exact ⟨0, Nat.zero_le _, rfl, H3⟩
                case round =>
                  obtain ⟨j, hj, rfl, H4⟩ := hrel
                  by_cases hjl : j < wl
                  · obtain ⟨gb1, go1, rfl, x1⟩ := HGA.out _ H4.out j hjl
                    obtain ⟨wb1, wo1, rfl, x2⟩ := (HWR.out.keep ((Keep.below HB3.out).trans (Keep.below H4.out.bel))) j hjl
                    generalize wf j = xv at x1 x2
                    go_wp2
                    go_region
                    all_goals
                      go_wp2
                      go_roundw
                      case rel => exact ⟨j + 1, by omega, by go_num, H4.out.drew⟩
                      case measure => simp [intOf]; omega
                  · go_wp2
                    go_roundw
                    case rel => exact ⟨i + 1, by omega, by go_num, by rw [HU2.out]; go_num, H4⟩
                    case measure => simp [intOf]; omega
              · have hw0 := hwn hm
                subst hw0
                clear HWR0 hwm hwn
                go_wp2_with (go_at_call 10; refine (absent_any ab mb cb bs i _ _ rfl HBR.out).mono ?_; rintro e w' ⟨rfl, hw'⟩; rw [hw']; clear hw'; rw [← HPI.out])
                clear e1 e2 e3 e4 e5 e6 
                go_loopw [151] (fun x wr => ∃ j : Nat, j ≤ 0 ∧ x = .int .i64 j ∧ Hid (L3 w3 p g rank ranked un wr)) (fun x _ => 0 - (intOf x).toNat)
                case atStart => exact ⟨0, Nat.zero_le _, rfl, H3⟩
                case round =>
                  obtain ⟨j, hj, rfl, H4⟩ := hrel
                  by_cases hjl : j < 0
                  · exact absurd hjl (by omega)
                  · go_wp2
                    go_roundw
                    case rel => exact ⟨i + 1, by omega, by go_num, by rw [HU2.out]; go_num, H4⟩
                    case measure => simp [intOf]; omega
            | false =>
              rw [hu] at e3
              have hrm : rank i = 0 := by
                rcases HAL.out i hin with a | a
                · exact a.1
                · exact absurd (hui.2 (by rw [a]; decide)) (by rw [hu]; decide)
              have HU2 : Hid (upto g rank (i + 1) = upto g rank i + 0) := by unfold Hid; rw [HUP.out, HHI.out, hrm]; simp
              rw [hrm] at e2
              have HWR0 : Hid (i < m → IRow .i32 w (q.a i) wl wf) := fun e => by obtain ⟨rfl, rfl⟩ := hwm e; exact (HI.out.L i e).2.2.2.1
              by_cases hm : i < m
              · have HWR := hide (HWR0.out hm)
                obtain ⟨⟨bl, ol, rfl, hcl⟩, _, _, _, _⟩ := (HI.out.L.keep HKP.out) i hm
                rw [← (hwm hm).1] at hcl
                obtain ⟨wa, hwa⟩ : ∃ wa, wa = q.a i := ⟨_, rfl⟩
                rw [← hwa] at hcl HWR
                clear hwa HWR0 hwm hwn
                go_wp2_with (go_at_call 10; refine (absent_any ab mb cb bs i _ _ rfl HBR.out).mono ?_; rintro e w' ⟨rfl, hw'⟩; rw [hw']; clear hw'; rw [← HPI.out])
                clear e1 e2 e3 e4 e5 e6 hcl
                go_loopw [151] (fun x wr => ∃ j : Nat, j ≤ wl ∧ x = .int .i64 j ∧ Hid (L3 w3 p g rank ranked un wr)) (fun x _ => wl - (intOf x).toNat)
                case atStart => exact ⟨0, Nat.zero_le _, rfl, H3⟩
                case round =>
                  obtain ⟨j, hj, rfl, H4⟩ := hrel
                  by_cases hjl : j < wl
                  · obtain ⟨gb1, go1, rfl, x1⟩ := HGA.out _ H4.out j hjl
                    obtain ⟨wb1, wo1, rfl, x2⟩ := (HWR.out.keep ((Keep.below HB3.out).trans (Keep.below H4.out.bel))) j hjl
                    generalize wf j = xv at x1 x2
                    go_wp2
                    go_region
                    all_goals
                      go_wp2
                      go_roundw
                      case rel => exact ⟨j + 1, by omega, by go_num, H4.out.drew⟩
                      case measure => simp [intOf]; omega
                  · go_wp2
                    go_roundw
                    case rel => exact ⟨i + 1, by omega, by go_num, by rw [HU2.out]; go_num, H4⟩
                    case measure => simp [intOf]; omega
              · have hw0 := hwn hm
                subst hw0
                clear HWR0 hwm hwn
                go_wp2_with (go_at_call 10; refine (absent_any ab mb cb bs i _ _ rfl HBR.out).mono ?_; rintro e w' ⟨rfl, hw'⟩; rw [hw']; clear hw'; rw [← HPI.out])
                clear e1 e2 e3 e4 e5 e6 
                go_loopw [151] (fun x wr => ∃ j : Nat, j ≤ 0 ∧ x = .int .i64 j ∧ Hid (L3 w3 p g rank ranked un wr)) (fun x _ => 0 - (intOf x).toNat)
                case atStart => exact ⟨0, Nat.zero_le _, rfl, H3⟩
                case round =>
                  obtain ⟨j, hj, rfl, H4⟩ := hrel
                  by_cases hjl : j < 0
                  · exact absurd hjl (by omega)
                  · go_wp2
                    go_roundw
                    case rel => exact ⟨i + 1, by omega, by go_num, by rw [HU2.out]; go_num, H4⟩
                    case measure => simp [intOf]; omega
        · obtain rfl : i = n := by omega
          rw [HCN.out] at hupl ⊢
          obtain ⟨small, pv, fv, hd⟩ := H3.out.dy
          have d2 := hd.c2
          clear hd
          go_wp2
          go_ret
          exact ⟨rfl, HB3.out.trans (H3.out.bel.mono HB3.out.size)⟩

theorem state_any (av al ab ta : Option Addr) (n cv m cl mb cb tn tc : Nat) (vs f : Nat → Int) (q : Lst) (bs : Nat → Bool) (w : World) (hV : IRow .i32 w av n vs) (hvw : ∀ j, j < n → -2147483648 ≤ vs j ∧ vs j ≤ 2147483647) (hL : LRow w al m q) (hB : BRow w ab mb bs) (hT : IRow .u16 w ta tn f) (hf : ∀ j, j < tn → 0 ≤ f j ∧ f j ≤ 65535)
    (g0 : w.cell? ⟨0, 0, none⟩ = some (.int .i32 2147483647)) (g1 : w.cell? ⟨0, 1, none⟩ = some (.int .i32 2147483647)) :
    Calls Ybad.prog 4 #[.slice av n cv, .slice al m cl, .slice ab mb cb, .slice ta tn tc] w fun e w' => e = .returned (.bool true) ∧ Below w.heap.size w w' := by
  by_cases h : 300 < n ∨ 300 < tn
  · exact state_big av al ab ta n cv m cl mb cb tn tc w h
  · by_cases h2 : 4096 < total q (min m n)
    · exact state_many av al ab ta n cv m cl mb cb tn tc q w (by omega) (by omega) hL h2
    · have hI : Ins w av al ab n m mb vs q bs := ⟨by omega, big_of h2, hV, hvw, hL, hB, g0, g1⟩
      by_cases hn : n = 0
      · subst hn
        exact state_zero av al ab ta cv m cl mb cb tn tc q w (by omega) hL h2
      · exact state_some av al ab ta n cv m cl mb cb tn tc vs f q bs w (by omega) (by omega) hI h2 hf hT
end Go.Proofs.YbulkcawkDoor.D
