import Derived.Test.YbulkcawkWalksB2
namespace Go.Proofs.Ybulkcawk.PB
open Go.RowKit

/-- an interface value that is nil or holds an int -/
def Plain (b : Value) : Prop := b = .nilIface ∨ ∃ n : Int, b = .iface 3 (.int .i64 n)

theorem for_any (b : Value) (hb : Plain b) (j : Int) (w : World) :
    Calls Yba.prog 19 #[.agg #[b, .nilFunc], .int .i64 j] w fun e w' => e = .returned b ∧ w' = w.alloc (.cells #[b, .nilFunc] 42) := by
  have qf : ∀ w, (binOp .neq 40 .nilFunc .nilFunc).run Yba.prog w = .ok (.bool false) w := fun _ => by kernel_rfl
  rcases hb with rfl | ⟨n, rfl⟩
  · go_enter Yba.func19, Yba.ntmps19
    go_wp2
    go_ret
    exact ⟨rfl, rfl⟩
  · go_enter Yba.func19, Yba.ntmps19
    go_wp2
    go_ret
    exact ⟨rfl, rfl⟩

theorem copy_in (c : Nat) (b off : Nat) (len cap : Nat) (j : Nat) (z : Int) (w : World) (hj : j < len) (h0 : w.cell? ⟨c, 0, none⟩ = some (.slice (some ⟨b, off, none⟩) len cap)) (hz : w.cell? ⟨b, off + j, none⟩ = some (.int .u8 z)) (z0 : 0 ≤ z) (z1 : z ≤ 255) :
    Calls Yba.prog 36 #[.pointer (some ⟨c, 0, none⟩), .int .i64 j] w fun e w' => e = .returned (.int .u8 (z % 3)) ∧ w' = w := by
  go_enter Yba.func36, Yba.ntmps36
  go_wp2
  go_ret
  exact ⟨rfl, rfl⟩

theorem copy_out (c : Nat) (a : Option Addr) (len cap : Nat) (w : World) (h0 : w.cell? ⟨c, 0, none⟩ = some (.slice a len cap)) :
    Calls Yba.prog 36 #[.pointer (some ⟨c, 0, none⟩), .int .i64 len] w fun e w' => e = .returned (.int .u8 2) ∧ w' = w := by
  go_enter Yba.func36, Yba.ntmps36
  go_wp2
  go_ret
  exact ⟨rfl, rfl⟩

set_option maxRecDepth 100000 in
theorem face_out (N : Nat) (a : Option Addr) (len cap : Nat) (w : World) (h0 : w.cell? ⟨N + 2, 0, none⟩ = some (.slice a len cap)) (g3 : w.cell? ⟨N + 3, 3, none⟩ = some (.iface 32 (.pointer (some ⟨N + 2, 0, none⟩)))) :
    Calls Yba.prog 15 #[.pointer (some ⟨N + 3, 0, none⟩), .int .i64 len] w fun e w' => e = .returned .nilIface ∧ Below w.heap.size w w' := by
  go_enter Yba.func15, Yba.ntmps15
  go_wp2_with (refine wpList_invoke1 rfl (.tmp 9) (.tmp 10) _ _ rfl 32 (.pointer (some ⟨N + 2, 0, none⟩)) rfl (.int .i64 len) rfl 36 (.pointer (some ⟨N + 2, 0, none⟩)) (by kernel_rfl) (copy_out (N + 2) a len cap _ h0) ?_; rintro e w1 ⟨rfl, rfl⟩; refine ⟨_, rfl, ?_⟩)
  go_ret
  exact ⟨rfl, Below.refl _ _⟩

/-- what the copy facing a recipient whose byte is z sends it -/
def faceOf (sA sB : Value) (z : Int) : Value := if z % 3 = 0 then sA else if z % 3 = 1 then sB else .nilIface

set_option maxRecDepth 100000 in
theorem face_in (N : Nat) (sA sB : Value) (pA : Plain sA) (pB : Plain sB) (b off len cap j : Nat) (z : Int) (w : World) (hj : j < len) (h0 : w.cell? ⟨N + 2, 0, none⟩ = some (.slice (some ⟨b, off, none⟩) len cap)) (hz : w.cell? ⟨b, off + j, none⟩ = some (.int .u8 z)) (z0 : 0 ≤ z) (z1 : z ≤ 255)
    (g3 : w.cell? ⟨N + 3, 3, none⟩ = some (.iface 32 (.pointer (some ⟨N + 2, 0, none⟩)))) (g6 : w.cell? ⟨N + 3, 6, none⟩ = some sA) (g7 : w.cell? ⟨N + 3, 7, none⟩ = some .nilFunc) (g8 : w.cell? ⟨N + 3, 8, none⟩ = some sB) (g9 : w.cell? ⟨N + 3, 9, none⟩ = some .nilFunc) :
    Calls Yba.prog 15 #[.pointer (some ⟨N + 3, 0, none⟩), .int .i64 j] w fun e w' => e = .returned (faceOf sA sB z) ∧ Below w.heap.size w w' := by
  obtain h | h | h : z % 3 = 0 ∨ z % 3 = 1 ∨ z % 3 = 2 := by omega
  · have HF : Hid (faceOf sA sB z = sA) := by unfold Hid faceOf; rw [if_pos h]
    go_enter Yba.func15, Yba.ntmps15
    go_wp2_with (first | (refine wpList_invoke1 rfl (.tmp 9) (.tmp 10) _ _ rfl 32 (.pointer (some ⟨N + 2, 0, none⟩)) rfl (.int .i64 j) rfl 36 (.pointer (some ⟨N + 2, 0, none⟩)) (by kernel_rfl) (copy_in (N + 2) b off len cap j z _ hj h0 hz z0 z1) ?_; rintro e w1 ⟨rfl, rfl⟩; refine ⟨_, rfl, ?_⟩; rw [h]) | (go_at_call 19; refine (for_any _ pA _ _).mono ?_; rintro e w2 ⟨rfl, rfl⟩))
    go_ret
    exact ⟨congrArg _ HF.out.symm, (Below.refl _ _).alloc (Nat.le_refl _) _⟩
  · have HF : Hid (faceOf sA sB z = sB) := by unfold Hid faceOf; rw [if_neg (by omega), if_pos h]
    go_enter Yba.func15, Yba.ntmps15
    go_wp2_with (first | (refine wpList_invoke1 rfl (.tmp 9) (.tmp 10) _ _ rfl 32 (.pointer (some ⟨N + 2, 0, none⟩)) rfl (.int .i64 j) rfl 36 (.pointer (some ⟨N + 2, 0, none⟩)) (by kernel_rfl) (copy_in (N + 2) b off len cap j z _ hj h0 hz z0 z1) ?_; rintro e w1 ⟨rfl, rfl⟩; refine ⟨_, rfl, ?_⟩; rw [h]) | (go_at_call 19; refine (for_any _ pB _ _).mono ?_; rintro e w2 ⟨rfl, rfl⟩))
    go_ret
    exact ⟨congrArg _ HF.out.symm, (Below.refl _ _).alloc (Nat.le_refl _) _⟩
  · have HF : Hid (faceOf sA sB z = .nilIface) := by unfold Hid faceOf; rw [if_neg (by omega), if_neg (by omega)]
    go_enter Yba.func15, Yba.ntmps15
    go_wp2_with (refine wpList_invoke1 rfl (.tmp 9) (.tmp 10) _ _ rfl 32 (.pointer (some ⟨N + 2, 0, none⟩)) rfl (.int .i64 j) rfl 36 (.pointer (some ⟨N + 2, 0, none⟩)) (by kernel_rfl) (copy_in (N + 2) b off len cap j z _ hj h0 hz z0 z1) ?_; rintro e w1 ⟨rfl, rfl⟩; refine ⟨_, rfl, ?_⟩; rw [h])
    go_ret
    exact ⟨congrArg _ HF.out.symm, Below.refl _ _⟩

theorem log_ret (v : Value) (hv : v = .slice none 0 0) (r : Int) (w : World) :
    Calls Yba.prog 9 #[v, .bool true, .int .i64 r] w fun e w' => e = .returned (.bool true) ∧ w' = w := by
  subst hv
  go_enter Yba.func9, Yba.ntmps9
  go_wp2
  go_ret
  exact ⟨rfl, rfl⟩

theorem log_one (g cap : Nat) (r : Int) (w : World) (h : w.cell? ⟨g, 0, none⟩ = some (.int .i64 r)) :
    Calls Yba.prog 9 #[.slice (some ⟨g, 0, none⟩) 1 cap, .bool false, .int .i64 r] w fun e w' => e = .returned (.bool true) ∧ w' = w := by
  go_enter Yba.func9, Yba.ntmps9
  go_wp2
  go_ret
  exact ⟨rfl, rfl⟩

theorem want_any (ret : Bool) (pay : Int) (v : Value) (hv : v = if ret then .nilIface else pays pay) (w : World) :
    Calls Yba.prog 10 #[.bool ret, .int .i64 pay] w fun e w' => e = .returned v ∧ w' = w := by
  cases ret with
  | true =>
    simp at hv; subst hv
    go_enter Yba.func10, Yba.ntmps10
    go_wp2
    go_ret
    exact ⟨rfl, rfl⟩
  | false =>
    simp [pays] at hv
    by_cases hp : pay = 0
    · rw [if_pos hp] at hv; subst hp hv
      go_enter Yba.func10, Yba.ntmps10
      go_wp2
      go_ret
      exact ⟨rfl, rfl⟩
    · rw [if_neg hp] at hv; subst hv
      have hp' : (pay == 0) = false := by simpa using hp
      go_enter Yba.func10, Yba.ntmps10
      go_wp2
      go_ret
      exact ⟨rfl, rfl⟩
/-- the log of a copy, as a value -/
def LogV (w : World) (v : Value) (ret : Bool) (r : Int) : Prop :=
  (ret = true ∧ v = .slice none 0 0) ∨ (ret = false ∧ ∃ g cap, v = .slice (some ⟨g, 0, none⟩) 1 cap ∧ w.cell? ⟨g, 0, none⟩ = some (.int .i64 r))

theorem log_any (v : Value) (ret : Bool) (r : Int) (w : World) (h : LogV w v ret r) :
    Calls Yba.prog 9 #[v, .bool ret, .int .i64 r] w fun e w' => e = .returned (.bool true) ∧ w' = w := by
  rcases h with ⟨rfl, rfl⟩ | ⟨rfl, g, cap, rfl, h⟩
  · exact log_ret _ rfl r w
  · exact log_one g cap r w h

theorem LogIs.val {B : Nat} {w : World} {b : Nat} {ret : Bool} {r : Int} (h : LogIs B w b ret r) : ∃ ao n cap, n ≤ 1 ∧ w.cell? ⟨b, 1, none⟩ = some (.slice ao n cap) ∧ LogV w (.slice ao n cap) ret r := by
  cases ret with
  | true => exact ⟨none, 0, 0, by omega, h, Or.inl ⟨rfl, rfl⟩⟩
  | false =>
    obtain ⟨g, cap, _, h1, h2⟩ := h
    exact ⟨_, 1, cap, by omega, h1, Or.inr ⟨rfl, g, cap, rfl, h2⟩⟩

theorem sent_plain (ret : Bool) (pay : Int) : Plain (sentOf ret pay) := by
  unfold sentOf; split
  · exact Or.inl rfl
  · rcases pays_or pay with h | h
    · exact Or.inl h
    · exact Or.inr ⟨_, h⟩
end Go.Proofs.Ybulkcawk.PB
