import Derived.Test.YbulkcbbuWalks1
import Derived.Laws.AppendOwnNone
import Derived.Deep.QuietTactic
import Derived.BigQuiet
namespace Go.Proofs.Ybulkcbbu.PC
open Go.RowKit

theorem info9 : (Yba.prog.info? 9).map (fun i => (i.zero, i.size, i.bytes)) = some (some (.string ByteArray.empty), 1, 16) := by kernel_rfl

theorem SRow.below {w w' : World} {a : Option Addr} {n : Nat} {ss : List ByteArray} (h : SRow w a n ss) (hb : Below w.heap.size w w') : SRow w' a n ss :=
  ⟨h.1, fun j hj => by
    obtain ⟨b, off, h1, h2⟩ := h.2 j hj
    exact ⟨b, off, h1, (hb.cell (World.block_lt_of_cell? _ _ h2)).trans h2⟩⟩

theorem own_row {w : World} {B : Nat} {v : Value} {n : Nat} {ss : List ByteArray} (h : w.ownsRow B 9 1 v n (ss.map Value.string)) :
    ∃ a c, v = .slice a n c ∧ (a = none → n = 0 ∧ c = 0) ∧ SRow w a n ss := by
  have hl : ss.length = n := by have := h.1; simpa using this
  rcases h.2 with ⟨rfl, rfl⟩ | ⟨g, cap, cur, rfl, _⟩
  · exact ⟨none, 0, rfl, fun _ => ⟨rfl, rfl⟩, hl, fun j hj => absurd hj (by omega)⟩
  · refine ⟨_, cap, rfl, (fun e => by cases e), hl, fun j hj => ⟨g, 0, rfl, ?_⟩⟩
    have := h.cellAt j (by omega)
    rw [Nat.zero_add, this]
    simp [hl, hj]

/-- 'append([]string(nil), xs...)' -/
theorem wpList_copy_strs {ops : Array Oper} {rest : List Oper} {o : Oper} {act : Act} {w : World} {Q : Exit → Act → World → Prop} (hgd : o.guard = none) (x : Operand)
    (ho : o.op = .call { callee := .builtin .append, args := #[.const (.slice none 0 0), x], argTypes := #[22, 22] })
    (a : Option Addr) (n c : Nat) (ss : List ByteArray) (hx : act.eval x = .slice a n c) (hn : n ≤ 1024) (hno : a = none → n = 0 ∧ c = 0) (hrow : SRow w a n ss)
    (hk : ∀ a' c' w', (a' = none → n = 0 ∧ c' = 0) → SRow w' a' n ss → Below w.heap.size w w' → wpList Yba.prog ops Q rest (act.put o.dst (.slice a' n c')) w') : wpList Yba.prog ops Q (o :: rest) act w := by
  obtain ⟨i0, hi, hz0, hz1, hz2⟩ := info_parts info9
  cases a with
  | none =>
    obtain ⟨rfl, rfl⟩ := hno rfl
    refine wpList_append_own_none hgd (.const (.slice none 0 0)) x 22 ho w.heap.size 9 i0 1 Yba.underlying22 hi (.slice none 0 0) 0 [] rfl (World.ownsRow_nil _ _ _ _) hx ?_
    exact hk none 0 w (fun _ => ⟨rfl, rfl⟩) hrow (Below.refl _ _)
  | some ad =>
    refine wpList_append_own w hgd (.const (.slice none 0 0)) x 22 ho w.heap.size 9 i0 (.string ByteArray.empty) 1 16 Yba.underlying22 hi hz0 hz1 hz2 rfl (by decide) (.slice none 0 0) 0 [] rfl (World.ownsRow_nil _ _ _ _) ad n c (ss.map Value.string) hx (by simp [hrow.1]) ?_ ?_ (by unfold maxLen; omega) (by omega) (Nat.le_refl _) ?_
    · intro j u hu
      have hj : j < n := by
        have := (List.getElem?_eq_some_iff.1 hu).1
        simp [hrow.1] at this; exact this
      obtain ⟨b, off, e, hc⟩ := hrow.2 j hj
      cases e
      have ea : (⟨b, off, none⟩ : Addr).add j = ⟨b, off + j, none⟩ := by simp only [Addr.add]; split <;> simp_all
      rw [ea, hc]
      have hl := hrow.1
      simp [hl, hj] at hu ⊢
      exact hu
    · intro u hu
      obtain ⟨s, _, rfl⟩ := List.mem_map.1 hu
      rfl
    · intro v' w' hown hgrow _
      obtain ⟨a', c', e, h1, h2⟩ := own_row (ss := ss) (n := n) (by simpa using hown)
      subst e
      exact hk a' c' w' h1 h2 ((Below.refl _ _).grown hgrow (Nat.le_refl _) (fun k h => by cases h))

theorem neq_self (s : ByteArray) (w : World) : (binOp .neq 9 (.string s) (.string s)).run Yba.prog w = .ok (.bool false) w := by
  simp [go_sem]

set_option maxRecDepth 100000 in
set_option maxHeartbeats 1600000 in
theorem law_in (a1 a2 a3 : Option Addr) (l1 c1 l2 c2 l3 c3 : Nat) (fk op ks : List ByteArray) (w : World) (hl1 : l1 ≤ 1024) (hl2 : l2 ≤ 1024) (hl3 : l3 ≤ 1024)
    (n1 : a1 = none → l1 = 0 ∧ c1 = 0) (n2 : a2 = none → l2 = 0 ∧ c2 = 0) (n3 : a3 = none → l3 = 0 ∧ c3 = 0) (h1 : SRow w a1 l1 fk) (h2 : SRow w a2 l2 op) (h3 : SRow w a3 l3 ks) :
    Calls Yba.prog 3 #[.slice a1 l1 c1, .slice a2 l2 c2, .slice a3 l3 c3] w fun e w' => e = .returned (.bool true) ∧ Below w.heap.size w w' := by
  have N1 := hide n1
  have N2 := hide n2
  have N3 := hide n3
  have H1 := hide h1
  have H2 := hide h2
  have H3 := hide h3
  clear n1 n2 n3 h1 h2 h3
  go_enter Yba.func3, Yba.ntmps3
  go_wp2_with (first | (at_builtin; refine wpList_copy_strs rfl (.tmp 28) rfl a1 l1 c1 fk rfl hl1 N1.out H1.out ?_; intro b1 d1 w1 m1 s1 hb1; have M1 := hide m1; have S1 := hide s1; have B1 := hide hb1; clear m1 s1 hb1) | (at_builtin; refine wpList_copy_strs rfl (.tmp 30) rfl a2 l2 c2 op rfl hl2 N2.out (H2.out.below B1.out) ?_; intro b2 d2 w2 m2 s2 hb2; have M2 := hide m2; have S2 := hide s2; have B2 := hide hb2; clear m2 s2 hb2) | (at_builtin; refine wpList_copy_strs rfl (.tmp 32) rfl a3 l3 c3 ks rfl hl3 N3.out ((H3.out.below B1.out).below B2.out) ?_; intro b3 d3 w3 m3 s3 hb3; have M3 := hide m3; have S3 := hide s3; have B3 := hide hb3; clear m3 s3 hb3) | fail)
  refine (first_any _ b1 b2 b3 l1 d1 l2 d2 l3 d3 fk op ks _ hl1 hl2 hl3 (((S1.out.below B2.out).below B3.out).below ((Below.refl _ _).alloc (Nat.le_refl _) _)) ((S2.out.below B3.out).below ((Below.refl _ _).alloc (Nat.le_refl _) _)) (S3.out.below ((Below.refl _ _).alloc (Nat.le_refl _) _)) (by simp) (by simp)).mono ?_
  rintro e w4 ⟨rfl, hw⟩
  have B4 : Hid (Below w3.heap.size w3 w4) := by unfold Hid; rw [hw]; exact (Below.refl _ _).alloc (Nat.le_refl _) _
  clear hw
  have A1 := hide ((((H1.out.below B1.out).below B2.out).below B3.out).below B4.out)
  have A2 := hide ((((H2.out.below B1.out).below B2.out).below B3.out).below B4.out)
  have A3 := hide ((((H3.out.below B1.out).below B2.out).below B3.out).below B4.out)
  have T1 := hide (((S1.out.below B2.out).below B3.out).below B4.out)
  have T2 := hide ((S2.out.below B3.out).below B4.out)
  have T3 := hide (S3.out.below B4.out)
  have Z : Hid (Below w.heap.size w w4) := hide (((B1.out.trans (B2.out.mono B1.out.size)).trans (B3.out.mono (Nat.le_trans B1.out.size B2.out.size))).trans (B4.out.mono (Nat.le_trans (Nat.le_trans B1.out.size B2.out.size) B3.out.size)))
  clear N1 N2 N3 H1 H2 H3 M1 M2 M3 S1 S2 S3 B1 B2 B3 B4
  have qs := neq_self
  go_wp2_with (go_at_call 6; refine (model_any a1 a2 a3 l1 c1 l2 c2 l3 c3 fk op ks _ hl1 hl2 hl3 A1.out A2.out A3.out).mono ?_; rintro e w' ⟨rfl, rfl⟩)
  go_loopw [12] (fun i wr => ∃ k : Nat, k ≤ l1 ∧ i = .int .i64 k ∧ Below w'.heap.size w' wr) (fun i _ => l1 - (intOf i).toNat)
  case atStart => exact ⟨0, Nat.zero_le _, rfl, Below.refl _ _⟩
  case round =>
    obtain ⟨k, hk, rfl, hw⟩ := hrel
    have HW := hide hw
    clear hw
    by_cases hlt : k < l1
    · obtain ⟨p1, o1, e1, hc1⟩ := (T1.out.below HW.out).2 k hlt
      obtain ⟨p2, o2, e2, hc2⟩ := (A1.out.below HW.out).2 k hlt
      subst e1 e2
      obtain ⟨x, hx⟩ : ∃ x, x = fk.getD k ByteArray.empty := ⟨_, rfl⟩
      rw [← hx] at hc1 hc2
      clear hx
      go_wp2
      go_region
      all_goals
        go_wp2
        go_roundw
        case rel => exact ⟨k + 1, by omega, by go_num, HW.out.drew⟩
        case measure => simp [intOf]; omega
    · go_wp2
      have HU := HW
      clear HW
      go_loopw [13] (fun i wr => ∃ k : Nat, k ≤ l2 ∧ i = .int .i64 k ∧ Below w'.heap.size w' wr) (fun i _ => l2 - (intOf i).toNat)
      case atStart => exact ⟨0, Nat.zero_le _, rfl, HU.out⟩
      case round =>
        obtain ⟨k, hk, rfl, hw⟩ := hrel
        have HW := hide hw
        clear hw
        by_cases hlt : k < l2
        · obtain ⟨p1, o1, e1, hc1⟩ := (T2.out.below HW.out).2 k hlt
          obtain ⟨p2, o2, e2, hc2⟩ := (A2.out.below HW.out).2 k hlt
          subst e1 e2
          obtain ⟨x, hx⟩ : ∃ x, x = op.getD k ByteArray.empty := ⟨_, rfl⟩
          rw [← hx] at hc1 hc2
          clear hx
          go_wp2
          go_region
          all_goals
            go_wp2
            go_roundw
            case rel => exact ⟨k + 1, by omega, by go_num, HW.out.drew⟩
            case measure => simp [intOf]; omega
        · go_wp2
          have HV := HW
          clear HW
          go_loopw [14] (fun i wr => ∃ k : Nat, k ≤ l3 ∧ i = .int .i64 k ∧ Below w'.heap.size w' wr) (fun i _ => l3 - (intOf i).toNat)
          case atStart => exact ⟨0, Nat.zero_le _, rfl, HV.out⟩
          case round =>
            obtain ⟨k, hk, rfl, hw⟩ := hrel
            have HW := hide hw
            clear hw
            by_cases hlt : k < l3
            · obtain ⟨p1, o1, e1, hc1⟩ := (T3.out.below HW.out).2 k hlt
              obtain ⟨p2, o2, e2, hc2⟩ := (A3.out.below HW.out).2 k hlt
              subst e1 e2
              obtain ⟨x, hx⟩ : ∃ x, x = ks.getD k ByteArray.empty := ⟨_, rfl⟩
              rw [← hx] at hc1 hc2
              clear hx
              go_wp2
              go_region
              all_goals
                go_wp2
                go_roundw
                case rel => exact ⟨k + 1, by omega, by go_num, HW.out.drew⟩
                case measure => simp [intOf]; omega
            · go_wp2
              go_ret
              exact ⟨rfl, Z.out.trans (HW.out.mono Z.out.size)⟩
end Go.Proofs.Ybulkcbbu.PC
