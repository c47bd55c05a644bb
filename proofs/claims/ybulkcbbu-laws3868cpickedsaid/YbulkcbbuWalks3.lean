import Derived.Test.YbulkcbbuWalks2
namespace Go.Proofs.Ybulkcbbu.PC
open Go.RowKit

/-- a slice of bools -/
def BRow (w : World) (a : Option Addr) (len : Nat) (bs : Nat → Bool) : Prop :=
  ∀ j, j < len → ∃ b off, a = some ⟨b, off, none⟩ ∧ w.cell? ⟨b, off + j, none⟩ = some (.bool (bs j))

/-- a slice of bytes -/
def URow (w : World) (a : Option Addr) (len : Nat) (ps : Nat → Int) : Prop :=
  ∀ j, j < len → (∃ b off, a = some ⟨b, off, none⟩ ∧ w.cell? ⟨b, off + j, none⟩ = some (.int .u8 (ps j))) ∧ 0 ≤ ps j ∧ ps j ≤ 255

theorem BRow.below {w w' : World} {a : Option Addr} {n : Nat} {bs : Nat → Bool} (h : BRow w a n bs) (hb : Below w.heap.size w w') : BRow w' a n bs := fun j hj => by
  obtain ⟨b, off, h1, h2⟩ := h j hj
  exact ⟨b, off, h1, (hb.cell (World.block_lt_of_cell? _ _ h2)).trans h2⟩

theorem URow.below {w w' : World} {a : Option Addr} {n : Nat} {ps : Nat → Int} (h : URow w a n ps) (hb : Below w.heap.size w w') : URow w' a n ps := fun j hj => by
  obtain ⟨⟨b, off, h1, h2⟩, h3⟩ := h j hj
  exact ⟨⟨b, off, h1, (hb.cell (World.block_lt_of_cell? _ _ h2)).trans h2⟩, h3⟩

/-- the keys marked optional, of the first k -/
def opts (fk : List ByteArray) (bs : Nat → Bool) : Nat → List ByteArray
  | 0 => []
  | k + 1 => if bs k then opts fk bs k ++ [fk.getD k ByteArray.empty] else opts fk bs k

theorem opts_le (fk : List ByteArray) (bs : Nat → Bool) (k : Nat) : (opts fk bs k).length ≤ k := by
  induction k with
  | zero => simp [opts]
  | succ k ih =>
    unfold opts; split
    · rw [List.length_append, List.length_singleton]; omega
    · omega

/-- the first k picked keys -/
def picked (fk : List ByteArray) (ps : Nat → Int) (n : Nat) : Nat → List ByteArray
  | 0 => []
  | k + 1 => picked fk ps n k ++ [fk.getD (ps k % n).toNat ByteArray.empty]

theorem picked_len (fk : List ByteArray) (ps : Nat → Int) (n k : Nat) : (picked fk ps n k).length = k := by
  induction k with
  | zero => simp [picked]
  | succ k ih => simp [picked, ih]

theorem one_str (w : World) (x : ByteArray) : ∀ (j : Nat) (u : Value), [Value.string x][j]? = some u → (w.alloc (.cells #[.string x] 9)).cell? ((⟨w.heap.size, 0, none⟩ : Addr).add j) = some u := by
  intro j u hj
  match j, hj with
  | 0, hj => simp at hj; subst hj; simp [Addr.add]

theorem one_cell (x : ByteArray) : ∀ u ∈ [Value.string x], u.oneCell' = true := by
  intro u hu; simp at hu; subst hu; rfl

theorem own_shape {w : World} {B : Nat} {v : Value} {n : Nat} {xs : List Value} (h : w.ownsRow B 9 1 v n xs) : ∃ a c, v = .slice a n c := by
  rcases h.2 with ⟨rfl, rfl⟩ | ⟨g, cap, cur, rfl, _⟩
  · exact ⟨none, 0, rfl⟩
  · exact ⟨_, cap, rfl⟩

set_option maxRecDepth 100000 in
set_option maxHeartbeats 3200000 in
theorem picked_in (a1 a2 a3 : Option Addr) (l1 c1 l2 c2 l3 c3 : Nat) (fk : List ByteArray) (bs : Nat → Bool) (ps : Nat → Int) (w : World) (hl1 : l1 ≤ 1024) (hl2 : l2 ≤ 1024) (hl3 : l3 ≤ 1024) (hp : 1 ≤ l1)
    (n1 : a1 = none → l1 = 0 ∧ c1 = 0) (h1 : SRow w a1 l1 fk) (h2 : BRow w a2 l2 bs) (h3 : URow w a3 l3 ps) :
    Calls Yba.prog 4 #[.slice a1 l1 c1, .slice a2 l2 c2, .slice a3 l3 c3] w fun e w' => e = .returned (.bool true) ∧ Below w.heap.size w w' := by
  obtain ⟨i0, hi, hz0, hz1, hz2⟩ := info_parts info9
  have N1 := hide n1
  have H1 := hide h1
  have H2 := hide h2
  have H3 := hide h3
  clear n1 h1 h2 h3
  go_enter Yba.func4, Yba.ntmps4
  go_wp2_with (at_builtin; refine wpList_copy_strs rfl (.tmp 32) rfl a1 l1 c1 fk rfl hl1 N1.out H1.out ?_; intro b1 d1 w1 m1 s1 hb1; have S1 := hide s1; have B1 := hide hb1; clear m1 s1 hb1)
  have G2 := hide (H2.out.below B1.out)
  have G3 := hide (H3.out.below B1.out)
  clear H1 H2 H3 N1
  go_loopw [8, 9] (fun v i wr => ∃ k : Nat, k ≤ l1 ∧ k ≤ l2 ∧ i = .int .i64 k ∧ wr.ownsRow w1.heap.size 9 1 v (opts fk bs k).length ((opts fk bs k).map Value.string) ∧ Below w1.heap.size w1 wr) (fun _ i _ => l1 - (intOf i).toNat)
  case atStart => exact ⟨0, Nat.zero_le _, Nat.zero_le _, rfl, World.ownsRow_nil _ _ _ _, Below.refl _ _⟩
  case round =>
    obtain ⟨k, hk1, hk2, rfl, hown, hw⟩ := hrel
    have HO := hide hown
    have HW := hide hw
    obtain ⟨va, vc, rfl⟩ := own_shape hown
    have hle := opts_le fk bs k
    clear hown hw
    by_cases hlt : k < l1 ∧ k < l2
    · obtain ⟨hlt1, hlt2⟩ := hlt
      obtain ⟨p1, o1, e1, hc1⟩ := (S1.out.below HW.out).2 k hlt1
      obtain ⟨p2, o2, e2, hc2⟩ := (G2.out.below HW.out) k hlt2
      subst e1 e2
      obtain ⟨x, hx⟩ : ∃ x, x = fk.getD k ByteArray.empty := ⟨_, rfl⟩
      rw [← hx] at hc1
      have HX := hide hx
      clear hx
      obtain ⟨bk, hbk⟩ : ∃ bk, bk = bs k := ⟨_, rfl⟩
      rw [← hbk] at hc2
      have HB := hide hbk
      clear hbk
      cases bk
      · go_wp2
        go_roundw
        case rel =>
          have e : opts fk bs (k + 1) = opts fk bs k := by rw [opts, ← HB.out]; rfl
          exact ⟨k + 1, by omega, by omega, by go_num, by rw [e]; exact HO.out, HW.out⟩
        case measure => simp [intOf]; omega
      · go_wp2_with (at_builtin; refine wpList_append_own _ rfl (.tmp 50) (.tmp 55) 22 rfl w1.heap.size 9 i0 (.string ByteArray.empty) 1 16 Yba.underlying22 hi hz0 hz1 hz2 rfl (by decide) _ _ _ rfl (HO.out.alloc _) ⟨wr.heap.size, 0, none⟩ 1 1 [.string x] rfl rfl (one_str wr x) (one_cell x) (by unfold maxLen; omega) (by omega) (by have := HW.out.size; simp; omega) ?_; intro v' w2 hown' hgrow' _; have HO' := hide hown'; have HG' := hide hgrow'; clear hown' hgrow')
        go_roundw
        case rel =>
          have e : opts fk bs (k + 1) = opts fk bs k ++ [x] := by rw [opts, ← HB.out, HX.out]; rfl
          exact ⟨k + 1, by omega, by omega, by go_num, by rw [e]; simpa using HO'.out, (HW.out.alloc HW.out.size _).grown HG'.out (by have := HW.out.size; simp; omega) (fun k' h => (HO.out.lt k' h).1)⟩
        case measure => simp [intOf]; omega
    · generalize opts fk bs k = op at HO hle ⊢
      obtain ⟨wm, hwm⟩ : ∃ wm, wm = wr := ⟨_, rfl⟩
      subst hwm
      obtain ⟨va', vc', e, m2, s2⟩ := own_row HO.out
      obtain ⟨rfl, rfl⟩ : va = va' ∧ vc = vc' := by cases e; exact ⟨rfl, rfl⟩
      have T1 := hide (S1.out.below HW.out)
      have T2 := hide s2
      have T3 := hide (G3.out.below HW.out)
      have Z : Hid (Below w.heap.size w wm) := B1.out.trans (HW.out.mono B1.out.size)
      have hlo : op.length ≤ 1024 := by omega
      clear e m2 s2 HO HW S1 G2 G3 B1 hle
      by_cases hk : k < l1
      all_goals
        go_wp2_with (at_make; refine wpList_make_own _ rfl (.const (.int .i64 0)) (.tmp 58) 22 rfl wm.heap.size 9 i0 (.string ByteArray.empty) 1 Yba.underlying22 hi hz0 hz1 .i64 .i64 (l3 : Int) l3 rfl rfl rfl (by rw [hz2]; omega) (by unfold maxLen; omega) (Nat.le_refl _) ?_; intro w3 hown3 hgrow3; have HO3 := hide hown3; have HB3 := hide ((Below.refl wm.heap.size wm).grown hgrow3 (Nat.le_refl _) (fun k h => by cases h)); clear hown3 hgrow3)
        go_loopw [10, 11] (fun v i wr => ∃ q : Nat, q ≤ l3 ∧ i = .int .i64 q ∧ wr.ownsRow wm.heap.size 9 1 v q ((picked fk ps l1 q).map Value.string) ∧ Below wm.heap.size wm wr) (fun _ i _ => l3 - (intOf i).toNat)
        case atStart => exact ⟨0, Nat.zero_le _, rfl, HO3.out, HB3.out⟩
        case round =>
          obtain ⟨q, hq, rfl, hown, hw⟩ := hrel
          have HO := hide hown
          have HW := hide hw
          obtain ⟨ka, kc, rfl⟩ := own_shape hown
          clear hown hw
          by_cases hlt2 : q < l3
          · obtain ⟨⟨p3, o3, e3, hc3⟩, z0, z1⟩ := (T3.out.below HW.out) q hlt2
            have y0 : 0 ≤ ps q % (l1 : Int) := Int.emod_nonneg _ (by omega)
            have y1 : ps q % (l1 : Int) < (l1 : Int) := Int.emod_lt_of_pos _ (by omega)
            obtain ⟨p1, o1, e1, hc1⟩ := (T1.out.below HW.out).2 (ps q % (l1 : Int)).toNat (by omega)
            subst e1 e3
            obtain ⟨x, hx⟩ : ∃ x, x = fk.getD (ps q % (l1 : Int)).toNat ByteArray.empty := ⟨_, rfl⟩
            rw [← hx] at hc1
            have HX := hide hx
            clear hx
            go_wp2_with (at_builtin; refine wpList_append_own _ rfl (.tmp 66) (.tmp 78) 22 rfl wm.heap.size 9 i0 (.string ByteArray.empty) 1 16 Yba.underlying22 hi hz0 hz1 hz2 rfl (by decide) _ _ _ rfl (HO.out.alloc _) ⟨wr.heap.size, 0, none⟩ 1 1 [.string x] rfl rfl (one_str wr x) (one_cell x) (by unfold maxLen; omega) (by omega) (by have := HW.out.size; simp; omega) ?_; intro v' w5 hown' hgrow' _; have HO' := hide hown'; have HG' := hide hgrow'; clear hown' hgrow')
            go_roundw
            case rel =>
              have e : picked fk ps l1 (q + 1) = picked fk ps l1 q ++ [x] := by rw [picked, HX.out]
              exact ⟨q + 1, by omega, by go_num, by rw [e, List.map_append]; exact HO'.out, (HW.out.alloc HW.out.size _).grown HG'.out (by have := HW.out.size; simp; omega) (fun k' h => (HO.out.lt k' h).1)⟩
            case measure => simp [intOf]; omega
          · obtain rfl : q = l3 := by omega
            obtain ⟨ks, hks⟩ : ∃ ks, ks = picked fk ps l1 q := ⟨_, rfl⟩
            rw [← hks] at HO
            clear hks
            obtain ⟨ka', kc', e, m3, s3⟩ := own_row HO.out
            obtain ⟨rfl, rfl⟩ : ka = ka' ∧ kc = kc' := by cases e; exact ⟨rfl, rfl⟩
            have R1 := hide (T1.out.below HW.out)
            have R2 := hide (T2.out.below HW.out)
            have R3 := hide s3
            have Y : Hid (Below w.heap.size w wr) := Z.out.trans (HW.out.mono Z.out.size)
            clear e m3 s3 HO HW T1 T2 T3 Z HO3 HB3
            go_wp2_with fail
            refine (first_any _ b1 va ka l1 d1 op.length vc q kc fk op ks _ hl1 hlo hl3 (R1.out.below ((Below.refl _ _).alloc (Nat.le_refl _) _)) (R2.out.below ((Below.refl _ _).alloc (Nat.le_refl _) _)) (R3.out.below ((Below.refl _ _).alloc (Nat.le_refl _) _)) (by simp) (by simp)).mono ?_
            rintro e w6 ⟨rfl, hw6⟩
            have B6 : Hid (Below wr.heap.size wr w6) := by unfold Hid; rw [hw6]; exact (Below.refl _ _).alloc (Nat.le_refl _) _
            clear hw6
            have Q1 := hide (R1.out.below B6.out)
            have Q2 := hide (R2.out.below B6.out)
            have Q3 := hide (R3.out.below B6.out)
            have X : Hid (Below w.heap.size w w6) := Y.out.trans (B6.out.mono Y.out.size)
            clear R1 R2 R3 Y B6
            have qs := neq_self
            obtain ⟨got, hgot⟩ : ∃ got, got = firstReq fk op ks := ⟨_, rfl⟩
            have HG := hide hgot
            rw [← hgot]
            clear hgot
            go_wp2_with (go_at_call 6; refine (model_any b1 va ka l1 d1 op.length vc q kc fk op ks _ hl1 hlo hl3 Q1.out Q2.out Q3.out).mono ?_; rintro e w' ⟨rfl, rfl⟩; rw [← HG.out])
            go_loop [14] (fun i => ∃ j : Nat, j ≤ q ∧ i = .int .i64 j ∧ Hid (got = firstReq fk op (ks.drop j))) (fun i => q - (intOf i).toNat)
            case atStart => exact ⟨0, Nat.zero_le _, rfl, by unfold Hid; rw [List.drop_zero]; exact HG.out⟩
            case round =>
              obtain ⟨j, hj, rfl, HJ⟩ := hrel
              by_cases hlt3 : j < q
              · obtain ⟨p, o, e4, hc4⟩ := Q3.out.2 j hlt3
                subst e4
                obtain ⟨x, hx⟩ : ∃ x, x = ks.getD j ByteArray.empty := ⟨_, rfl⟩
                rw [← hx] at hc4
                have HX := hide hx
                clear hx
                have HN : Hid (j < ks.length) := by unfold Hid; rw [Q3.out.1]; exact hlt3
                obtain ⟨p1, hp1⟩ : ∃ p1, p1 = hasB fk x := ⟨_, rfl⟩
                obtain ⟨p2, hp2⟩ : ∃ p2, p2 = hasB op x := ⟨_, rfl⟩
                have HR : Hid (reqB fk op x = (p1 && !p2)) := by unfold Hid reqB; rw [hp1, hp2]
                have HP1 := hide hp1
                have HP2 := hide hp2
                clear hp1 hp2
                cases p1
                · go_wp2_with fail
                  refine (has_any b1 l1 d1 fk x _ hl1 Q1.out).mono ?_
                  rintro e wz ⟨rfl, rfl⟩
                  rw [← HP1.out]
                  go_wp2
                  go_round
                  case rel => exact ⟨j + 1, by omega, by go_num, hide (HJ.out.trans (first_no fk op ks x j HN.out HX.out HR.out))⟩
                  case measure => simp [intOf]; omega
                · cases p2
                  · have he : got = x := HJ.out.trans (first_yes fk op ks x j HN.out HX.out HR.out)
                    have HE := hide he
                    clear he
                    go_wp2_with fail
                    refine (has_any b1 l1 d1 fk x _ hl1 Q1.out).mono ?_
                    rintro e wz ⟨rfl, rfl⟩
                    rw [← HP1.out]
                    go_wp2_with fail
                    refine (has_any va op.length vc op x _ hlo Q2.out).mono ?_
                    rintro e wz ⟨rfl, rfl⟩
                    rw [← HP2.out]
                    go_wp2
                    go_ret
                    exact ⟨ret_bool (by rw [HE.out]; simp), X.out⟩
                  · go_wp2_with fail
                    refine (has_any b1 l1 d1 fk x _ hl1 Q1.out).mono ?_
                    rintro e wz ⟨rfl, rfl⟩
                    rw [← HP1.out]
                    go_wp2_with fail
                    refine (has_any va op.length vc op x _ hlo Q2.out).mono ?_
                    rintro e wz ⟨rfl, rfl⟩
                    rw [← HP2.out]
                    go_wp2
                    go_round
                    case rel => exact ⟨j + 1, by omega, by go_num, hide (HJ.out.trans (first_no fk op ks x j HN.out HX.out HR.out))⟩
                    case measure => simp [intOf]; omega
              · have he : got = ByteArray.empty := HJ.out.trans (first_end fk op ks j (by rw [Q3.out.1]; omega))
                subst he
                go_wp2
                go_ret
                exact ⟨by rfl, X.out⟩
end Go.Proofs.Ybulkcbbu.PC
