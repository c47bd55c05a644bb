import Derived.Test.YbulkcbemWalks2
import Derived.Deep.QuietTactic
import Derived.BigQuiet
import Derived.WalkSmall
import Derived.LaidEqlPtr
namespace Go.Proofs.Ybulkcbem.PE
open Go.RowKit

theorem build_nil (w : World) : Calls Yba.prog 15 #[.slice none 0 0] w fun e w' => e = .returned (.slice none 0 0) ∧ w' = w := by
  have qE : ∀ (w : World) (a : Option Addr) (n c n' c' : Nat), (binOp .eql 61 (.slice a n c) (.slice none n' c')).run Yba.prog w = .ok (.bool a.isNone) w := fun w a n c n' c' => Lib.run_eql_slice_nil w _ _ a n c n' c' Yba.underlying61
  go_enter Yba.func15, Yba.ntmps15
  go_wp2
  go_ret
  exact ⟨rfl, rfl⟩

set_option maxRecDepth 100000 in
theorem build_zero (x : Addr) (c : Nat) (q : Seqs) (w : World) :
    Calls Yba.prog 15 #[.slice (some x) 0 c] w fun e w' => ∃ g, e = .returned (.slice (some ⟨g, 0, none⟩) 0 0) ∧ Fill w g 0 q 0 w' := by
  have qE : ∀ (w : World) (a : Option Addr) (n c n' c' : Nat), (binOp .eql 61 (.slice a n c) (.slice none n' c')).run Yba.prog w = .ok (.bool a.isNone) w := fun w a n c n' c' => Lib.run_eql_slice_nil w _ _ a n c n' c' Yba.underlying61
  obtain ⟨i0, hi, hz0, hz1, hz2⟩ := info_parts info65
  go_enter Yba.func15, Yba.ntmps15
  go_wp2_with (at_make; refine wpList_make_full _ rfl (.tmp 9) (.tmp 9) 62 rfl w.heap.size 65 i0 (.agg #[.int .i64 0, .int .i64 0, .slice none 0 0, .int .i64 0]) 4 Yba.underlying62 hi hz0 hz1 .i64 .i64 (0 : Int) (0 : Int) 0 rfl rfl rfl rfl (by omega) (by unfold maxLen; omega) (Nat.le_refl _) ?_)
  intro w1 hown hgrow
  have HF : Hid (Fill w w.heap.size 0 q 0 w1) := fill_start hown hgrow
  clear hown hgrow
  go_wp2
  refine wp_loop_rounds 1 ?_
  rw [rounds_succ]
  go_wp2
  go_ret
  exact ⟨_, rfl, HF.out⟩

/-- the slice that came in -/
def InRow (w : World) (a : Option Addr) (n : Nat) (q : Seqs) : Prop := ∀ j, j < n → ∃ b off, a = some ⟨b, off, none⟩ ∧ QRow w b off n q

theorem matchB_eq (q : Seqs) (sa : Nat → Option Addr) (sl sc : Nat → Nat) (f t : Int) (j : Nat) : matchB ⟨q.len, q.least, sa, sl, sc, q.fin⟩ f t j = matchB q f t j := rfl

theorem no_more {q : Seqs} {f t : Int} {k : Nat} (h : ∀ i, i < k → matchB q f t i = false) (hk : matchB q f t k = false) : ∀ i, i < k + 1 → matchB q f t i = false := fun i hi => by
  by_cases e : i = k
  · subst e; exact hk
  · exact h i (by omega)

theorem ptr_found {q : Seqs} {sa : Nat → Option Addr} {sl sc : Nat → Nat} {f t : Int} {n g k : Nat} {v : Value} (h : IsPtr ⟨q.len, q.least, sa, sl, sc, q.fin⟩ f t n g v) (hk : k < n) (hm : matchB q f t k = true) (hb : ∀ i, i < k → matchB q f t i = false) : v = .pointer (some ⟨g, k * 4, none⟩) := by
  rcases h with ⟨_, h⟩ | ⟨j, rfl, hj, hmj, hbj⟩
  · have := h k hk; rw [matchB_eq, hm] at this; cases this
  · have e : j = k := by
      rcases Nat.lt_trichotomy j k with h1 | h1 | h1
      · have := hb j h1; rw [matchB_eq, this] at hmj; cases hmj
      · exact h1
      · have := hbj k h1; rw [matchB_eq, hm] at this; cases this
    subst e; rfl

theorem ptr_none {q : Seqs} {sa : Nat → Option Addr} {sl sc : Nat → Nat} {f t : Int} {n g : Nat} {v : Value} (h : IsPtr ⟨q.len, q.least, sa, sl, sc, q.fin⟩ f t n g v) (hb : ∀ i, i < n → matchB q f t i = false) : v = .pointer none := by
  rcases h with ⟨h, _⟩ | ⟨j, rfl, hj, hmj, _⟩
  · exact h
  · have := hb j hj; rw [matchB_eq, this] at hmj; cases hmj

theorem a0 (w : World) (A B C : Array Value) (t u v : TypeId) (o : Nat) : (((w.alloc (.cells A t)).alloc (.cells B u)).alloc (.cells C v)).cell? ⟨w.heap.size, o, none⟩ = A[o]? := by
  rw [World.cell?_alloc_past _ _ _ (by simp; omega), World.cell?_alloc_past _ _ _ (by simp), World.cell?_alloc_new]
theorem a1 (w : World) (A B C : Array Value) (t u v : TypeId) (o : Nat) : (((w.alloc (.cells A t)).alloc (.cells B u)).alloc (.cells C v)).cell? ⟨w.heap.size + 1, o, none⟩ = B[o]? := by
  rw [World.cell?_alloc_past _ _ _ (by simp), World.cell?_alloc_at _ _ _ _ (by simp)]
theorem a2 (w : World) (A B C : Array Value) (t u v : TypeId) (o : Nat) : (((w.alloc (.cells A t)).alloc (.cells B u)).alloc (.cells C v)).cell? ⟨w.heap.size + 1 + 1, o, none⟩ = C[o]? := by
  rw [World.cell?_alloc_at _ _ _ _ (by simp)]

set_option maxRecDepth 100000 in
set_option maxHeartbeats 3200000 in
theorem law_hit (x : Addr) (n c : Nat) (q : Seqs) (pick f t : Int) (hp : 1 ≤ n) (p0 : 0 ≤ pick) (p1 : pick ≤ 255) (w : World) (hn : n ≤ 1024) (hq : InRow w (some x) n q)
    (hbuild : Calls Yba.prog 15 #[.slice (some x) n c] w fun e w' => ∃ g, e = .returned (.slice (some ⟨g, 0, none⟩) n n) ∧ Fill w g n q n w') :
    Calls Yba.prog 5 #[.slice (some x) n c, .bool true, .int .u8 pick, .int .i64 f, .int .i64 t] w fun e w' => e = .returned (.bool true) ∧ Below w.heap.size w w' := by
  obtain ⟨i65, hi65, _, _, _⟩ := info_parts info65
  have qP : ∀ a w, (binOp .eql 76 (.pointer (some a)) (.pointer (some a))).run Yba.prog w = .ok (.bool true) w := fun a w => run_eql_ptr_same w a Yba.underlying76 hi65
  have HI := hide hq
  have HBd := hide hbuild
  clear hq hbuild
  go_enter Yba.func5, Yba.ntmps5
  go_wp2_with fail
  refine HBd.out.mono ?_
  rintro e w1 ⟨g, rfl, hf⟩
  have HF := hide hf
  obtain ⟨sa, sl, sc, hr⟩ := hf.row
  have HR := hide hr
  clear hf hr HBd
  have y0 : 0 ≤ pick % (n : Int) := Int.emod_nonneg _ (by omega)
  have y1 : pick % (n : Int) < (n : Int) := Int.emod_lt_of_pos _ (by omega)
  have HK := HR.out (pick % (n : Int)).toNat (by omega)
  rw [Nat.zero_add] at HK
  obtain ⟨d0, _, _, d3⟩ := HK
  go_wp2_with fail
  generalize q.len (pick % (n : Int)).toNat = f' at d0 ⊢
  generalize q.fin (pick % (n : Int)).toNat = t' at d3 ⊢
  refine (seqAt_any (w1.heap.size + 1 + 1) (w1.heap.size + 1) w1.heap.size g n n ⟨q.len, q.least, sa, sl, sc, q.fin⟩ _ _ _ hn (((HR.out.below ((Below.refl _ _).alloc (Nat.le_refl _) _)).below ((Below.refl _ _).alloc (Nat.le_refl _) _)).below ((Below.refl _ _).alloc (Nat.le_refl _) _)) (a2 ..) (a1 ..) (a0 ..)).mono ?_
  rintro e w2 ⟨v, rfl, hv, hb2⟩
  have hb12 : Below w1.heap.size w1 w2 := ((((Below.refl w1.heap.size w1).alloc (Nat.le_refl _) _).alloc (by simp) _).alloc (by simp; omega) _).trans (hb2.mono (by simp; omega))
  have HZ : Hid (Below w.heap.size w w2) := HF.out.bel.trans (hb12.mono HF.out.bel.size)
  have k75 := (hb2.cell (p := ⟨w1.heap.size + 1 + 1, 1, none⟩) (by simp)).trans (a2 ..)
  have k44 := (hb2.cell (p := ⟨w1.heap.size + 1, 0, none⟩) (by simp)).trans (a1 ..)
  have k72 := (hb2.cell (p := ⟨w1.heap.size, 4, none⟩) (by simp; omega)).trans (a0 ..)
  simp only [List.getElem?_toArray, List.getElem?_cons_succ, List.getElem?_cons_zero] at k75 k44 k72
  have R2 := hide (HR.out.below hb12)
  have HV := hide hv
  clear hv hb2 hb12 HR HF
  go_wp2
  go_loop [15, 16] (fun v i => ∃ j : Nat, j ≤ n ∧ v = .int .i64 (-1) ∧ i = .int .i64 j ∧ Hid (∀ i, i < j → matchB q f' t' i = false)) (fun _ i => n - (intOf i).toNat)
  case atStart => exact ⟨0, Nat.zero_le _, rfl, rfl, hide (fun i hi => absurd hi (by omega))⟩
  case round =>
    obtain ⟨k, hk, rfl, rfl, HM⟩ := hrel
    by_cases hlt : k < n
    · obtain ⟨c0, _, _, c3⟩ := R2.out k hlt
      rw [Nat.zero_add] at c0 c3
      obtain ⟨lk, hlk⟩ : ∃ lk, lk = q.len k := ⟨_, rfl⟩
      obtain ⟨ek, hek⟩ : ∃ ek, ek = q.fin k := ⟨_, rfl⟩
      simp only [← hlk, ← hek] at c0 c3
      have HB : Hid (matchB q f' t' k = (lk == f' && ek == t')) := by unfold Hid matchB; rw [hlk, hek]
      clear hlk hek
      by_cases h1 : lk = f'
      · by_cases h2 : ek = t'
        · have HY : Hid (matchB q f' t' k = true) := by unfold Hid; rw [HB.out, h1, h2]; simp
          have hv : v = .pointer (some ⟨g, k * 4, none⟩) := ptr_found HV.out hlt HY.out HM.out
          subst hv h1 h2
          clear HV HB HY HM
          go_wp2
          clear c0 c3
          go_loopw [17] (fun i wr => ∃ j : Nat, j ≤ n ∧ i = .int .i64 j ∧ Below w2.heap.size w2 wr) (fun i _ => n - (intOf i).toNat)
          case atStart => exact ⟨0, Nat.zero_le _, rfl, Below.refl _ _⟩
          case round =>
            obtain ⟨j, hj, rfl, hw⟩ := hrel
            have HW := hide hw
            clear hw
            by_cases hlt2 : j < n
            · obtain ⟨b, off, e5, hQ⟩ := HI.out j hlt2
              obtain ⟨a0, a1, _, a3⟩ := ((hQ.below HZ.out).below HW.out) j hlt2
              obtain ⟨c0, c1, _, c3⟩ := (R2.out.below HW.out) j hlt2
              rw [Nat.zero_add] at c0 c1 c3
              simp only [Option.some.injEq] at e5
              subst e5
              clear hQ
              obtain ⟨lj, hlj⟩ : ∃ lj, lj = q.len j := ⟨_, rfl⟩
              obtain ⟨mj, hmj⟩ : ∃ mj, mj = q.least j := ⟨_, rfl⟩
              obtain ⟨ej, hej⟩ : ∃ ej, ej = q.fin j := ⟨_, rfl⟩
              simp only [← hlj, ← hmj, ← hej] at a0 a1 a3 c0 c1 c3
              clear hlj hmj hej
              go_wp2
              go_quiet (fail)
              go_wp2
              go_roundw
              case rel => exact ⟨j + 1, by omega, by go_num, below_drewN HW.out _⟩
              case measure => simp [intOf]; omega
            · go_wp2
              go_ret
              exact ⟨rfl, HZ.out.trans (HW.out.mono HZ.out.size)⟩
        · have h2' : (ek == t') = false := by simpa using h2
          have HY : Hid (matchB q f' t' k = false) := by unfold Hid; rw [HB.out, h2']; simp
          subst h1
          go_wp2
          go_round
          case rel => exact ⟨k + 1, by omega, rfl, by go_num, hide (no_more HM.out HY.out)⟩
          case measure => simp [intOf]; omega
      · have h1' : (lk == f') = false := by simpa using h1
        have HY : Hid (matchB q f' t' k = false) := by unfold Hid; rw [HB.out, h1']; rfl
        go_wp2
        go_round
        case rel => exact ⟨k + 1, by omega, rfl, by go_num, hide (no_more HM.out HY.out)⟩
        case measure => simp [intOf]; omega
    · have hv : v = .pointer none := ptr_none HV.out (fun j hj => HM.out j (by omega))
      subst hv
      clear HV HM
      go_wp2
      go_loopw [17] (fun i wr => ∃ j : Nat, j ≤ n ∧ i = .int .i64 j ∧ Below w2.heap.size w2 wr) (fun i _ => n - (intOf i).toNat)
      case atStart => exact ⟨0, Nat.zero_le _, rfl, Below.refl _ _⟩
      case round =>
        obtain ⟨j, hj, rfl, hw⟩ := hrel
        have HW := hide hw
        clear hw
        by_cases hlt2 : j < n
        · obtain ⟨b, off, e5, hQ⟩ := HI.out j hlt2
          obtain ⟨a0, a1, _, a3⟩ := ((hQ.below HZ.out).below HW.out) j hlt2
          obtain ⟨c0, c1, _, c3⟩ := (R2.out.below HW.out) j hlt2
          rw [Nat.zero_add] at c0 c1 c3
          simp only [Option.some.injEq] at e5
          subst e5
          clear hQ
          obtain ⟨lj, hlj⟩ : ∃ lj, lj = q.len j := ⟨_, rfl⟩
          obtain ⟨mj, hmj⟩ : ∃ mj, mj = q.least j := ⟨_, rfl⟩
          obtain ⟨ej, hej⟩ : ∃ ej, ej = q.fin j := ⟨_, rfl⟩
          simp only [← hlj, ← hmj, ← hej] at a0 a1 a3 c0 c1 c3
          clear hlj hmj hej
          go_wp2
          go_quiet (fail)
          go_wp2
          go_roundw
          case rel => exact ⟨j + 1, by omega, by go_num, below_drewN HW.out _⟩
          case measure => simp [intOf]; omega
        · go_wp2
          go_ret
          exact ⟨rfl, HZ.out.trans (HW.out.mono HZ.out.size)⟩

set_option maxRecDepth 100000 in
set_option maxHeartbeats 3200000 in
theorem law_miss (x : Addr) (n c : Nat) (q : Seqs) (pick f t : Int) (w : World) (hn : n ≤ 1024) (hq : InRow w (some x) n q)
    (hbuild : Calls Yba.prog 15 #[.slice (some x) n c] w fun e w' => ∃ g, e = .returned (.slice (some ⟨g, 0, none⟩) n n) ∧ Fill w g n q n w') :
    Calls Yba.prog 5 #[.slice (some x) n c, .bool false, .int .u8 pick, .int .i64 f, .int .i64 t] w fun e w' => e = .returned (.bool true) ∧ Below w.heap.size w w' := by
  obtain ⟨i65, hi65, _, _, _⟩ := info_parts info65
  have qP : ∀ a w, (binOp .eql 76 (.pointer (some a)) (.pointer (some a))).run Yba.prog w = .ok (.bool true) w := fun a w => run_eql_ptr_same w a Yba.underlying76 hi65
  have HI := hide hq
  have HBd := hide hbuild
  clear hq hbuild
  go_enter Yba.func5, Yba.ntmps5
  go_wp2_with fail
  refine HBd.out.mono ?_
  rintro e w1 ⟨g, rfl, hf⟩
  have HF := hide hf
  obtain ⟨sa, sl, sc, hr⟩ := hf.row
  have HR := hide hr
  clear hf hr HBd
  go_wp2_with fail
  obtain ⟨f', hf'⟩ : ∃ f', f' = f := ⟨_, rfl⟩
  obtain ⟨t', ht'⟩ : ∃ t', t' = t := ⟨_, rfl⟩
  subst hf' ht'
  refine (seqAt_any (w1.heap.size + 1 + 1) (w1.heap.size + 1) w1.heap.size g n n ⟨q.len, q.least, sa, sl, sc, q.fin⟩ _ _ _ hn (((HR.out.below ((Below.refl _ _).alloc (Nat.le_refl _) _)).below ((Below.refl _ _).alloc (Nat.le_refl _) _)).below ((Below.refl _ _).alloc (Nat.le_refl _) _)) (a2 ..) (a1 ..) (a0 ..)).mono ?_
  rintro e w2 ⟨v, rfl, hv, hb2⟩
  have hb12 : Below w1.heap.size w1 w2 := ((((Below.refl w1.heap.size w1).alloc (Nat.le_refl _) _).alloc (by simp) _).alloc (by simp; omega) _).trans (hb2.mono (by simp; omega))
  have HZ : Hid (Below w.heap.size w w2) := HF.out.bel.trans (hb12.mono HF.out.bel.size)
  have k75 := (hb2.cell (p := ⟨w1.heap.size + 1 + 1, 1, none⟩) (by simp)).trans (a2 ..)
  have k44 := (hb2.cell (p := ⟨w1.heap.size + 1, 0, none⟩) (by simp)).trans (a1 ..)
  have k72 := (hb2.cell (p := ⟨w1.heap.size, 4, none⟩) (by simp; omega)).trans (a0 ..)
  simp only [List.getElem?_toArray, List.getElem?_cons_succ, List.getElem?_cons_zero] at k75 k44 k72
  have R2 := hide (HR.out.below hb12)
  have HV := hide hv
  clear hv hb2 hb12 HR HF
  go_wp2
  go_loop [15, 16] (fun v i => ∃ j : Nat, j ≤ n ∧ v = .int .i64 (-1) ∧ i = .int .i64 j ∧ Hid (∀ i, i < j → matchB q f' t' i = false)) (fun _ i => n - (intOf i).toNat)
  case atStart => exact ⟨0, Nat.zero_le _, rfl, rfl, hide (fun i hi => absurd hi (by omega))⟩
  case round =>
    obtain ⟨k, hk, rfl, rfl, HM⟩ := hrel
    by_cases hlt : k < n
    · obtain ⟨c0, _, _, c3⟩ := R2.out k hlt
      rw [Nat.zero_add] at c0 c3
      obtain ⟨lk, hlk⟩ : ∃ lk, lk = q.len k := ⟨_, rfl⟩
      obtain ⟨ek, hek⟩ : ∃ ek, ek = q.fin k := ⟨_, rfl⟩
      simp only [← hlk, ← hek] at c0 c3
      have HB : Hid (matchB q f' t' k = (lk == f' && ek == t')) := by unfold Hid matchB; rw [hlk, hek]
      clear hlk hek
      by_cases h1 : lk = f'
      · by_cases h2 : ek = t'
        · have HY : Hid (matchB q f' t' k = true) := by unfold Hid; rw [HB.out, h1, h2]; simp
          have hv : v = .pointer (some ⟨g, k * 4, none⟩) := ptr_found HV.out hlt HY.out HM.out
          subst hv h1 h2
          clear HV HB HY HM
          go_wp2
          clear c0 c3
          go_loopw [17] (fun i wr => ∃ j : Nat, j ≤ n ∧ i = .int .i64 j ∧ Below w2.heap.size w2 wr) (fun i _ => n - (intOf i).toNat)
          case atStart => exact ⟨0, Nat.zero_le _, rfl, Below.refl _ _⟩
          case round =>
            obtain ⟨j, hj, rfl, hw⟩ := hrel
            have HW := hide hw
            clear hw
            by_cases hlt2 : j < n
            · obtain ⟨b, off, e5, hQ⟩ := HI.out j hlt2
              obtain ⟨a0, a1, _, a3⟩ := ((hQ.below HZ.out).below HW.out) j hlt2
              obtain ⟨c0, c1, _, c3⟩ := (R2.out.below HW.out) j hlt2
              rw [Nat.zero_add] at c0 c1 c3
              simp only [Option.some.injEq] at e5
              subst e5
              clear hQ
              obtain ⟨lj, hlj⟩ : ∃ lj, lj = q.len j := ⟨_, rfl⟩
              obtain ⟨mj, hmj⟩ : ∃ mj, mj = q.least j := ⟨_, rfl⟩
              obtain ⟨ej, hej⟩ : ∃ ej, ej = q.fin j := ⟨_, rfl⟩
              simp only [← hlj, ← hmj, ← hej] at a0 a1 a3 c0 c1 c3
              clear hlj hmj hej
              go_wp2
              go_quiet (fail)
              go_wp2
              go_roundw
              case rel => exact ⟨j + 1, by omega, by go_num, below_drewN HW.out _⟩
              case measure => simp [intOf]; omega
            · go_wp2
              go_ret
              exact ⟨rfl, HZ.out.trans (HW.out.mono HZ.out.size)⟩
        · have h2' : (ek == t') = false := by simpa using h2
          have HY : Hid (matchB q f' t' k = false) := by unfold Hid; rw [HB.out, h2']; simp
          subst h1
          go_wp2
          go_round
          case rel => exact ⟨k + 1, by omega, rfl, by go_num, hide (no_more HM.out HY.out)⟩
          case measure => simp [intOf]; omega
      · have h1' : (lk == f') = false := by simpa using h1
        have HY : Hid (matchB q f' t' k = false) := by unfold Hid; rw [HB.out, h1']; rfl
        go_wp2
        go_round
        case rel => exact ⟨k + 1, by omega, rfl, by go_num, hide (no_more HM.out HY.out)⟩
        case measure => simp [intOf]; omega
    · have hv : v = .pointer none := ptr_none HV.out (fun j hj => HM.out j (by omega))
      subst hv
      clear HV HM
      go_wp2
      go_loopw [17] (fun i wr => ∃ j : Nat, j ≤ n ∧ i = .int .i64 j ∧ Below w2.heap.size w2 wr) (fun i _ => n - (intOf i).toNat)
      case atStart => exact ⟨0, Nat.zero_le _, rfl, Below.refl _ _⟩
      case round =>
        obtain ⟨j, hj, rfl, hw⟩ := hrel
        have HW := hide hw
        clear hw
        by_cases hlt2 : j < n
        · obtain ⟨b, off, e5, hQ⟩ := HI.out j hlt2
          obtain ⟨a0, a1, _, a3⟩ := ((hQ.below HZ.out).below HW.out) j hlt2
          obtain ⟨c0, c1, _, c3⟩ := (R2.out.below HW.out) j hlt2
          rw [Nat.zero_add] at c0 c1 c3
          simp only [Option.some.injEq] at e5
          subst e5
          clear hQ
          obtain ⟨lj, hlj⟩ : ∃ lj, lj = q.len j := ⟨_, rfl⟩
          obtain ⟨mj, hmj⟩ : ∃ mj, mj = q.least j := ⟨_, rfl⟩
          obtain ⟨ej, hej⟩ : ∃ ej, ej = q.fin j := ⟨_, rfl⟩
          simp only [← hlj, ← hmj, ← hej] at a0 a1 a3 c0 c1 c3
          clear hlj hmj hej
          go_wp2
          go_quiet (fail)
          go_wp2
          go_roundw
          case rel => exact ⟨j + 1, by omega, by go_num, below_drewN HW.out _⟩
          case measure => simp [intOf]; omega
        · go_wp2
          go_ret
          exact ⟨rfl, HZ.out.trans (HW.out.mono HZ.out.size)⟩

set_option maxRecDepth 100000 in
set_option maxHeartbeats 1600000 in
/-- an empty slice that is not nil, a hit asked for -/
theorem law_zero (x : Addr) (c : Nat) (pick f t : Int) (w : World) :
    Calls Yba.prog 5 #[.slice (some x) 0 c, .bool true, .int .u8 pick, .int .i64 f, .int .i64 t] w fun e w' => e = .returned (.bool true) ∧ Below w.heap.size w w' := by
  go_enter Yba.func5, Yba.ntmps5
  go_wp2_with fail
  refine (build_zero x c ⟨fun _ => 0, fun _ => 0, fun _ => none, fun _ => 0, fun _ => 0, fun _ => 0⟩ w).mono ?_
  rintro e w1 ⟨g, rfl, hf⟩
  have HF := hide hf
  obtain ⟨sa, sl, sc, hr⟩ := hf.row
  have HR := hide hr
  clear hf hr
  go_wp2_with fail
  refine (seqAt_any (w1.heap.size + 1 + 1) (w1.heap.size + 1) w1.heap.size g 0 0 ⟨fun _ => 0, fun _ => 0, sa, sl, sc, fun _ => 0⟩ _ _ _ (by omega) (((HR.out.below ((Below.refl _ _).alloc (Nat.le_refl _) _)).below ((Below.refl _ _).alloc (Nat.le_refl _) _)).below ((Below.refl _ _).alloc (Nat.le_refl _) _)) (a2 ..) (a1 ..) (a0 ..)).mono ?_
  rintro e w2 ⟨v, rfl, hv, hb2⟩
  have hb12 : Below w1.heap.size w1 w2 := ((((Below.refl w1.heap.size w1).alloc (Nat.le_refl _) _).alloc (by simp) _).alloc (by simp; omega) _).trans (hb2.mono (by simp; omega))
  have HZ : Hid (Below w.heap.size w w2) := HF.out.bel.trans (hb12.mono HF.out.bel.size)
  have k75 := (hb2.cell (p := ⟨w1.heap.size + 1 + 1, 1, none⟩) (by simp)).trans (a2 ..)
  have k44 := (hb2.cell (p := ⟨w1.heap.size + 1, 0, none⟩) (by simp)).trans (a1 ..)
  have k72 := (hb2.cell (p := ⟨w1.heap.size, 4, none⟩) (by simp; omega)).trans (a0 ..)
  simp only [List.getElem?_toArray, List.getElem?_cons_succ, List.getElem?_cons_zero] at k75 k44 k72
  have hv0 : v = .pointer none := by
    rcases hv with ⟨h, _⟩ | ⟨j, _, hj, _⟩
    · exact h
    · omega
  subst hv0
  clear hv hb2 hb12 HR HF
  go_wp2
  refine wp_loop_rounds 1 ?_
  rw [rounds_succ]
  go_wp2
  refine wp_loop_rounds 1 ?_
  rw [rounds_succ]
  go_wp2
  go_ret
  exact ⟨rfl, HZ.out⟩

set_option maxRecDepth 100000 in
set_option maxHeartbeats 1600000 in
/-- a nil slice -/
theorem law_nil (hit : Bool) (pick f t : Int) (w : World) :
    Calls Yba.prog 5 #[.slice none 0 0, .bool hit, .int .u8 pick, .int .i64 f, .int .i64 t] w fun e w' => e = .returned (.bool true) ∧ Below w.heap.size w w' := by
  cases hit
  all_goals
    go_enter Yba.func5, Yba.ntmps5
    go_wp2_with fail
    refine (build_nil w).mono ?_
    rintro e w1 ⟨rfl, rfl⟩
    go_wp2_with fail
    refine (seqAt_nil (w1.heap.size + 1 + 1) (w1.heap.size + 1) w1.heap.size _ _ _ (a2 ..) (a1 ..) (a0 ..)).mono ?_
    rintro e w2 ⟨rfl, hb2⟩
    have hb12 : Below w1.heap.size w1 w2 := ((((Below.refl w1.heap.size w1).alloc (Nat.le_refl _) _).alloc (by simp) _).alloc (by simp; omega) _).trans (hb2.mono (by simp; omega))
    have HZ := hide hb12
    have k75 := (hb2.cell (p := ⟨w1.heap.size + 1 + 1, 1, none⟩) (by simp)).trans (a2 ..)
    have k44 := (hb2.cell (p := ⟨w1.heap.size + 1, 0, none⟩) (by simp)).trans (a1 ..)
    have k72 := (hb2.cell (p := ⟨w1.heap.size, 4, none⟩) (by simp; omega)).trans (a0 ..)
    simp only [List.getElem?_toArray, List.getElem?_cons_succ, List.getElem?_cons_zero] at k75 k44 k72
    clear hb2 hb12
    go_wp2
    refine wp_loop_rounds 1 ?_
    rw [rounds_succ]
    go_wp2
    refine wp_loop_rounds 1 ?_
    rw [rounds_succ]
    go_wp2
    go_ret
    exact ⟨rfl, HZ.out⟩

end Go.Proofs.Ybulkcbem.PE
