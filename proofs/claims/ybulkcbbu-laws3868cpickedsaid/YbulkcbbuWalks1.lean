import Derived.Test.YbulkcbbuProg
import Derived.WalkKit
namespace Go.Proofs.Ybulkcbbu.PC
open Go.RowKit

theorem hide {p : Prop} (h : p) : Hid p := h
theorem ret_bool {a b : Bool} (h : a = b) : Ending.returned (.bool a) = .returned (.bool b) := by rw [h]
theorem ret_int {k : IntKind} {a b : Int} (h : a = b) : Ending.returned (.int k a) = .returned (.int k b) := by rw [h]
theorem ret_str {a b : ByteArray} (h : a = b) : Ending.returned (.string a) = .returned (.string b) := by rw [h]

/-- a slice of strings, as the walk meets it: 'ss' are its elements -/
def SRow (w : World) (a : Option Addr) (len : Nat) (ss : List ByteArray) : Prop :=
  ss.length = len ∧ ∀ j, j < len → ∃ b off, a = some ⟨b, off, none⟩ ∧ w.cell? ⟨b, off + j, none⟩ = some (.string (ss.getD j ByteArray.empty))

def hasB : List ByteArray → ByteArray → Bool
  | [], _ => false
  | x :: xs, s => (x.toList == s.toList) || hasB xs s

theorem hasB_yes (ss : List ByteArray) (s x : ByteArray) (k : Nat) (hk : k < ss.length) (hx : x = ss.getD k ByteArray.empty) (h : (x.toList == s.toList) = true) : hasB (ss.drop k) s = true := by
  rw [List.drop_eq_getElem_cons hk, hasB]
  have e : ss.getD k ByteArray.empty = ss[k] := by simp [hk]
  rw [e] at hx; subst hx; rw [h]; rfl

theorem hasB_no (ss : List ByteArray) (s x : ByteArray) (k : Nat) (hk : k < ss.length) (hx : x = ss.getD k ByteArray.empty) (h : (x.toList == s.toList) = false) : hasB (ss.drop k) s = hasB (ss.drop (k + 1)) s := by
  rw [List.drop_eq_getElem_cons hk, hasB]
  have e : ss.getD k ByteArray.empty = ss[k] := by simp [hk]
  rw [e] at hx; subst hx; rw [h]; rfl

theorem hasB_end (ss : List ByteArray) (s : ByteArray) (k : Nat) (hk : ss.length ≤ k) : hasB (ss.drop k) s = false := by
  rw [List.drop_of_length_le hk]; rfl

theorem has_any (a : Option Addr) (len cap : Nat) (ss : List ByteArray) (s : ByteArray) (w : World) (hl : len ≤ 1024) (h : SRow w a len ss) :
    Calls Yba.prog 7 #[.slice a len cap, .string s] w fun e w' => e = .returned (.bool (hasB ss s)) ∧ w' = w := by
  have HC := hide h.2
  have HN := hide h.1
  clear h
  go_enter Yba.func7, Yba.ntmps7
  go_wp2
  go_loop [5] (fun i => ∃ k : Nat, k ≤ len ∧ i = .int .i64 k ∧ Hid (hasB ss s = hasB (ss.drop k) s)) (fun i => len - (intOf i).toNat)
  case atStart => exact ⟨0, Nat.zero_le _, rfl, by unfold Hid; rw [List.drop_zero]⟩
  case round =>
    obtain ⟨k, hk, rfl, HK⟩ := hrel
    by_cases hlt : k < len
    · obtain ⟨b, off, rfl, hcell⟩ := HC.out k hlt
      obtain ⟨x, hx⟩ : ∃ x, x = ss.getD k ByteArray.empty := ⟨_, rfl⟩
      rw [← hx] at hcell
      have HX := hide hx
      clear hx
      by_cases he : (x.toList == s.toList) = true
      · go_wp2
        go_ret
        exact ⟨ret_bool (by rw [HK.out, hasB_yes ss s x k (by rw [HN.out]; exact hlt) HX.out he]), rfl⟩
      · have he : (x.toList == s.toList) = false := by simpa using he
        go_wp2
        go_round
        case rel => exact ⟨k + 1, by omega, by go_num, hide (HK.out.trans (hasB_no ss s x k (by rw [HN.out]; exact hlt) HX.out he))⟩
        case measure => simp [intOf]; omega
    · go_wp2
      go_ret
      exact ⟨ret_bool (by rw [HK.out, hasB_end ss s k (by rw [HN.out]; omega)]), rfl⟩

/-- slices.Index, as far as slices.Contains asks: not negative just where the string is there -/
theorem index_any (a : Option Addr) (len cap : Nat) (ss : List ByteArray) (s : ByteArray) (w : World) (hl : len ≤ 1024) (h : SRow w a len ss) :
    Calls Yba.prog 10 #[.slice a len cap, .string s] w fun e w' => ∃ n : Int, e = .returned (.int .i64 n) ∧ hasB ss s = decide (0 ≤ n) ∧ w' = w := by
  have HC := hide h.2
  have HN := hide h.1
  clear h
  go_enter Yba.func10, Yba.ntmps10
  go_wp2
  go_loop [8] (fun i => ∃ k : Nat, k ≤ len ∧ i = .int .i64 k ∧ Hid (hasB ss s = hasB (ss.drop k) s)) (fun i => len - (intOf i).toNat)
  case atStart => exact ⟨0, Nat.zero_le _, rfl, by unfold Hid; rw [List.drop_zero]⟩
  case round =>
    obtain ⟨k, hk, rfl, HK⟩ := hrel
    by_cases hlt : k < len
    · obtain ⟨b, off, rfl, hcell⟩ := HC.out k hlt
      obtain ⟨x, hx⟩ : ∃ x, x = ss.getD k ByteArray.empty := ⟨_, rfl⟩
      rw [← hx] at hcell
      have HX := hide hx
      clear hx
      by_cases he : (s.toList == x.toList) = true
      · go_wp2
        go_ret
        exact ⟨(k : Int), rfl, by rw [HK.out, hasB_yes ss s x k (by rw [HN.out]; exact hlt) HX.out (by rw [BEq.comm]; exact he)]; simp, rfl⟩
      · have he : (s.toList == x.toList) = false := by simpa using he
        go_wp2
        go_round
        case rel => exact ⟨k + 1, by omega, by go_num, hide (HK.out.trans (hasB_no ss s x k (by rw [HN.out]; exact hlt) HX.out (by rw [BEq.comm]; exact he)))⟩
        case measure => simp [intOf]; omega
    · go_wp2
      go_ret
      exact ⟨-1, rfl, by rw [HK.out, hasB_end ss s k (by rw [HN.out]; omega)]; rfl, rfl⟩

theorem contains_any (a : Option Addr) (len cap : Nat) (ss : List ByteArray) (s : ByteArray) (w : World) (hl : len ≤ 1024) (h : SRow w a len ss) :
    Calls Yba.prog 9 #[.slice a len cap, .string s] w fun e w' => e = .returned (.bool (hasB ss s)) ∧ w' = w := by
  have H := hide h
  clear h
  go_enter Yba.func9, Yba.ntmps9
  go_wp2_with (go_at_call 10; refine (index_any a len cap ss s _ hl H.out).mono ?_; rintro e w' ⟨n, rfl, hn, rfl⟩; have HN := hide hn; clear hn)
  go_ret
  exact ⟨ret_bool HN.out.symm, rfl⟩

/-- is 's' a form key that is not optional? -/
def reqB (fk op : List ByteArray) (s : ByteArray) : Bool := hasB fk s && !hasB op s

theorem requires_any (c : Nat) (a1 a2 : Option Addr) (l1 c1 l2 c2 : Nat) (fk op : List ByteArray) (s : ByteArray) (w : World) (hl1 : l1 ≤ 1024) (hl2 : l2 ≤ 1024) (h1 : SRow w a1 l1 fk) (h2 : SRow w a2 l2 op)
    (k5 : w.cell? ⟨c, 5, none⟩ = some (.slice a1 l1 c1)) (k6 : w.cell? ⟨c, 6, none⟩ = some (.slice a2 l2 c2)) :
    Calls Yba.prog 8 #[.pointer (some ⟨c, 0, none⟩), .string s] w fun e w' => e = .returned (.bool (reqB fk op s)) ∧ w' = w := by
  have H1 := hide h1
  have H2 := hide h2
  clear h1 h2
  obtain ⟨p, hp⟩ : ∃ p, p = hasB fk s := ⟨_, rfl⟩
  obtain ⟨q, hq⟩ : ∃ q, q = hasB op s := ⟨_, rfl⟩
  have HR : Hid (reqB fk op s = (p && !q)) := by unfold Hid reqB; rw [hp, hq]
  have HP := hide hp
  have HQ := hide hq
  clear hp hq
  cases p
  · go_enter Yba.func8, Yba.ntmps8
    go_wp2_with fail
    refine (contains_any a1 l1 c1 fk s _ hl1 H1.out).mono ?_
    rintro e w' ⟨rfl, rfl⟩
    rw [← HP.out]
    go_wp2
    go_ret
    exact ⟨ret_bool HR.out.symm, rfl⟩
  · go_enter Yba.func8, Yba.ntmps8
    go_wp2_with fail
    refine (contains_any a1 l1 c1 fk s _ hl1 H1.out).mono ?_
    rintro e w' ⟨rfl, rfl⟩
    rw [← HP.out]
    go_wp2_with fail
    refine (contains_any a2 l2 c2 op s _ hl2 H2.out).mono ?_
    rintro e w' ⟨rfl, rfl⟩
    rw [← HQ.out]
    go_wp2
    go_ret
    exact ⟨ret_bool HR.out.symm, rfl⟩

/-- the first of 'ks' that is required, else the empty string -/
def firstReq (fk op : List ByteArray) : List ByteArray → ByteArray
  | [] => ByteArray.empty
  | k :: ks => if reqB fk op k then k else firstReq fk op ks

theorem first_yes (fk op ks : List ByteArray) (x : ByteArray) (k : Nat) (hk : k < ks.length) (hx : x = ks.getD k ByteArray.empty) (h : reqB fk op x = true) : firstReq fk op (ks.drop k) = x := by
  rw [List.drop_eq_getElem_cons hk, firstReq]
  have e : ks.getD k ByteArray.empty = ks[k] := by simp [hk]
  rw [e] at hx; subst hx; rw [if_pos h]

theorem first_no (fk op ks : List ByteArray) (x : ByteArray) (k : Nat) (hk : k < ks.length) (hx : x = ks.getD k ByteArray.empty) (h : reqB fk op x = false) : firstReq fk op (ks.drop k) = firstReq fk op (ks.drop (k + 1)) := by
  rw [List.drop_eq_getElem_cons hk, firstReq]
  have e : ks.getD k ByteArray.empty = ks[k] := by simp [hk]
  rw [e] at hx; subst hx; rw [h]; rfl

theorem first_end (fk op ks : List ByteArray) (k : Nat) (hk : ks.length ≤ k) : firstReq fk op (ks.drop k) = ByteArray.empty := by
  rw [List.drop_of_length_le hk]; rfl

theorem first_any (c : Nat) (a1 a2 a : Option Addr) (l1 c1 l2 c2 len cap : Nat) (fk op ks : List ByteArray) (w : World) (hl1 : l1 ≤ 1024) (hl2 : l2 ≤ 1024) (hl : len ≤ 1024) (h1 : SRow w a1 l1 fk) (h2 : SRow w a2 l2 op) (h : SRow w a len ks)
    (k5 : w.cell? ⟨c, 5, none⟩ = some (.slice a1 l1 c1)) (k6 : w.cell? ⟨c, 6, none⟩ = some (.slice a2 l2 c2)) :
    Calls Yba.prog 5 #[.pointer (some ⟨c, 0, none⟩), .slice a len cap] w fun e w' => e = .returned (.string (firstReq fk op ks)) ∧ w' = w := by
  have H1 := hide h1
  have H2 := hide h2
  have HC := hide h.2
  have HN := hide h.1
  clear h h1 h2
  go_enter Yba.func5, Yba.ntmps5
  go_wp2
  go_loop [9] (fun i => ∃ k : Nat, k ≤ len ∧ i = .int .i64 k ∧ Hid (firstReq fk op ks = firstReq fk op (ks.drop k))) (fun i => len - (intOf i).toNat)
  case atStart => exact ⟨0, Nat.zero_le _, rfl, by unfold Hid; rw [List.drop_zero]⟩
  case round =>
    obtain ⟨k, hk, rfl, HK⟩ := hrel
    by_cases hlt : k < len
    · obtain ⟨b, off, rfl, hcell⟩ := HC.out k hlt
      obtain ⟨x, hx⟩ : ∃ x, x = ks.getD k ByteArray.empty := ⟨_, rfl⟩
      rw [← hx] at hcell
      have HX := hide hx
      clear hx
      obtain ⟨p, hp⟩ : ∃ p, p = reqB fk op x := ⟨_, rfl⟩
      have HP := hide hp
      clear hp
      cases p
      · go_wp2_with (go_at_call 8; refine (requires_any c a1 a2 l1 c1 l2 c2 fk op x _ hl1 hl2 H1.out H2.out k5 k6).mono ?_; rintro e w' ⟨rfl, rfl⟩; rw [← HP.out])
        go_round
        case rel => exact ⟨k + 1, by omega, by go_num, hide (HK.out.trans (first_no fk op ks x k (by rw [HN.out]; exact hlt) HX.out HP.out.symm))⟩
        case measure => simp [intOf]; omega
      · go_wp2_with (go_at_call 8; refine (requires_any c a1 a2 l1 c1 l2 c2 fk op x _ hl1 hl2 H1.out H2.out k5 k6).mono ?_; rintro e w' ⟨rfl, rfl⟩; rw [← HP.out])
        go_ret
        exact ⟨ret_str (by rw [HK.out, first_yes fk op ks x k (by rw [HN.out]; exact hlt) HX.out HP.out.symm]), rfl⟩
    · go_wp2
      go_ret
      exact ⟨ret_str (by rw [HK.out, first_end fk op ks k (by rw [HN.out]; omega)]; rfl), rfl⟩

theorem model_any (a1 a2 a : Option Addr) (l1 c1 l2 c2 len cap : Nat) (fk op ks : List ByteArray) (w : World) (hl1 : l1 ≤ 1024) (hl2 : l2 ≤ 1024) (hl : len ≤ 1024) (h1 : SRow w a1 l1 fk) (h2 : SRow w a2 l2 op) (h : SRow w a len ks) :
    Calls Yba.prog 6 #[.slice a1 l1 c1, .slice a2 l2 c2, .slice a len cap] w fun e w' => e = .returned (.string (firstReq fk op ks)) ∧ w' = w := by
  have H1 := hide h1
  have H2 := hide h2
  have HC := hide h.2
  have HN := hide h.1
  clear h h1 h2
  go_enter Yba.func6, Yba.ntmps6
  go_wp2
  go_loop [7] (fun i => ∃ k : Nat, k ≤ len ∧ i = .int .i64 k ∧ Hid (firstReq fk op ks = firstReq fk op (ks.drop k))) (fun i => len - (intOf i).toNat)
  case atStart => exact ⟨0, Nat.zero_le _, rfl, by unfold Hid; rw [List.drop_zero]⟩
  case round =>
    obtain ⟨k, hk, rfl, HK⟩ := hrel
    by_cases hlt : k < len
    · obtain ⟨b, off, rfl, hcell⟩ := HC.out k hlt
      obtain ⟨x, hx⟩ : ∃ x, x = ks.getD k ByteArray.empty := ⟨_, rfl⟩
      rw [← hx] at hcell
      have HX := hide hx
      clear hx
      obtain ⟨p, hp⟩ : ∃ p, p = hasB fk x := ⟨_, rfl⟩
      obtain ⟨q, hq⟩ : ∃ q, q = hasB op x := ⟨_, rfl⟩
      have HR : Hid (reqB fk op x = (p && !q)) := by unfold Hid reqB; rw [hp, hq]
      have HP := hide hp
      have HQ := hide hq
      clear hp hq
      cases p
      · go_wp2_with fail
        refine (has_any a1 l1 c1 fk x _ hl1 H1.out).mono ?_
        rintro e w' ⟨rfl, rfl⟩
        rw [← HP.out]
        go_wp2
        go_round
        case rel => exact ⟨k + 1, by omega, by go_num, hide (HK.out.trans (first_no fk op ks x k (by rw [HN.out]; exact hlt) HX.out HR.out))⟩
        case measure => simp [intOf]; omega
      · cases q
        · go_wp2_with fail
          refine (has_any a1 l1 c1 fk x _ hl1 H1.out).mono ?_
          rintro e w' ⟨rfl, rfl⟩
          rw [← HP.out]
          go_wp2_with fail
          refine (has_any a2 l2 c2 op x _ hl2 H2.out).mono ?_
          rintro e w' ⟨rfl, rfl⟩
          rw [← HQ.out]
          go_wp2
          go_ret
          exact ⟨ret_str (by rw [HK.out, first_yes fk op ks x k (by rw [HN.out]; exact hlt) HX.out HR.out]), rfl⟩
        · go_wp2_with fail
          refine (has_any a1 l1 c1 fk x _ hl1 H1.out).mono ?_
          rintro e w' ⟨rfl, rfl⟩
          rw [← HP.out]
          go_wp2_with fail
          refine (has_any a2 l2 c2 op x _ hl2 H2.out).mono ?_
          rintro e w' ⟨rfl, rfl⟩
          rw [← HQ.out]
          go_wp2
          go_round
          case rel => exact ⟨k + 1, by omega, by go_num, hide (HK.out.trans (first_no fk op ks x k (by rw [HN.out]; exact hlt) HX.out HR.out))⟩
          case measure => simp [intOf]; omega
    · go_wp2
      go_ret
      exact ⟨ret_str (by rw [HK.out, first_end fk op ks k (by rw [HN.out]; omega)]; rfl), rfl⟩
end Go.Proofs.Ybulkcbbu.PC
