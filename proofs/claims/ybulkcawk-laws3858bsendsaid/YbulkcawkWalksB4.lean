import Derived.Test.YbulkcawkWalksB3
import Derived.Lib.IfaceNeq
namespace Go.Proofs.Ybulkcawk.PB
open Go.RowKit
theorem info_c3 : (Yba.prog.info? 3).map (fun i => i.comparable) = some true := by kernel_rfl
theorem neq_plain (v : Value) (h : Plain v) (w : World) : (binOp .neq 20 v v).run Yba.prog w = .ok (.bool false) w := by
  rcases h with rfl | ⟨n, rfl⟩
  · kernel_rfl
  · rw [Lib.run_neq_iface_int w n n Yba.underlying20 info_c3 Yba.underlying3]; simp

theorem neq_guard (x y : Nat) (v : Value) (h : Plain v) (w : World) : (eqGuard .neq 20 (.tmp x) (.tmp y) v v).run Yba.prog w = .ok () w := by
  rcases h with rfl | ⟨n, rfl⟩
  · kernel_rfl
  · kernel_rfl

/-- the cells of the faces -/
def Faces (w : World) (a : Option Addr) (len : Nat) : Prop :=
  ∀ j, j < len → ∃ b off z, a = some ⟨b, off, none⟩ ∧ w.cell? ⟨b, off + j, none⟩ = some (.int .u8 z) ∧ 0 ≤ z ∧ z ≤ 255

theorem LogV.alloc {w : World} {v : Value} {ret : Bool} {r : Int} (h : LogV w v ret r) (o : Obj) : LogV (w.alloc o) v ret r := by
  rcases h with h | ⟨h1, g, cap, h2, h3⟩
  · exact Or.inl h
  · exact Or.inr ⟨h1, g, cap, h2, by rw [World.cell?_alloc_past _ _ _ (World.block_lt_of_cell? _ _ h3)]; exact h3⟩

theorem at0 (w : World) (A B C F : Array Value) (t u v x : TypeId) (o : Nat) : ((((w.alloc (.cells A t)).alloc (.cells B u)).alloc (.cells C v)).alloc (.cells F x)).cell? ⟨w.heap.size, o, none⟩ = A[o]? := by
  rw [World.cell?_alloc_past _ _ _ (by simp; omega), World.cell?_alloc_past _ _ _ (by simp; omega), World.cell?_alloc_past _ _ _ (by simp), World.cell?_alloc_new]
theorem at1 (w : World) (A B C F : Array Value) (t u v x : TypeId) (o : Nat) : ((((w.alloc (.cells A t)).alloc (.cells B u)).alloc (.cells C v)).alloc (.cells F x)).cell? ⟨w.heap.size + 1, o, none⟩ = B[o]? := by
  rw [World.cell?_alloc_past _ _ _ (by simp), World.cell?_alloc_past _ _ _ (by simp), World.cell?_alloc_at _ _ _ _ (by simp)]
theorem at2 (w : World) (A B C F : Array Value) (t u v x : TypeId) (o : Nat) : ((((w.alloc (.cells A t)).alloc (.cells B u)).alloc (.cells C v)).alloc (.cells F x)).cell? ⟨w.heap.size + 2, o, none⟩ = C[o]? := by
  rw [World.cell?_alloc_past _ _ _ (by simp), World.cell?_alloc_at _ _ _ _ (by simp)]
theorem at3 (w : World) (A B C F : Array Value) (t u v x : TypeId) (o : Nat) : ((((w.alloc (.cells A t)).alloc (.cells B u)).alloc (.cells C v)).alloc (.cells F x)).cell? ⟨w.heap.size + 3, o, none⟩ = F[o]? := by
  rw [World.cell?_alloc_at _ _ _ _ (by simp)]
theorem fz0 (w : World) (A B C F : Array Value) (t u v x : TypeId) (o : Nat) : ((((w.alloc (.cells A t)).alloc (.cells B u)).alloc (.cells C v)).alloc (.cells F x)).frozen? ⟨w.heap.size, o, none⟩ = false := by
  rw [World.frozen?_alloc_past _ _ _ (by simp; omega), World.frozen?_alloc_past _ _ _ (by simp; omega), World.frozen?_alloc_past _ _ _ (by simp), World.frozen?_alloc_new]
theorem fz1 (w : World) (A B C F : Array Value) (t u v x : TypeId) (o : Nat) : ((((w.alloc (.cells A t)).alloc (.cells B u)).alloc (.cells C v)).alloc (.cells F x)).frozen? ⟨w.heap.size + 1, o, none⟩ = false := by
  rw [World.frozen?_alloc_past _ _ _ (by simp), World.frozen?_alloc_past _ _ _ (by simp), World.frozen?_alloc_at _ _ _ _ (by simp)]
theorem fz2 (w : World) (A B C F : Array Value) (t u v x : TypeId) (o : Nat) : ((((w.alloc (.cells A t)).alloc (.cells B u)).alloc (.cells C v)).alloc (.cells F x)).frozen? ⟨w.heap.size + 2, o, none⟩ = false := by
  rw [World.frozen?_alloc_past _ _ _ (by simp), World.frozen?_alloc_at _ _ _ _ (by simp)]
theorem fz3 (w : World) (A B C F : Array Value) (t u v x : TypeId) (o : Nat) : ((((w.alloc (.cells A t)).alloc (.cells B u)).alloc (.cells C v)).alloc (.cells F x)).frozen? ⟨w.heap.size + 3, o, none⟩ = false := by
  rw [World.frozen?_alloc_at _ _ _ _ (by simp)]

set_option maxRecDepth 100000 in
set_option maxHeartbeats 1600000 in
theorem law_in (id r : Int) (retA retB : Bool) (payA payB : Int) (a : Option Addr) (len cap : Nat) (w : World) (hl : len ≤ 1024) (hf : Faces w a len) :
    Calls Yba.prog 5 #[.int .i64 id, .int .i64 r, .bool retA, .bool retB, .int .i64 payA, .int .i64 payB, .slice a len cap] w fun e w' => e = .returned (.bool true) ∧ Below w.heap.size w w' := by
  have HF := hide hf
  clear hf
  go_enter Yba.func5, Yba.ntmps5
  go_wp2_with fail
  refine (two_send w.heap.size id r retA retB payA payB (.slice a len cap) _ (by simp) (at0 ..) (at0 ..) (fz0 ..) (at1 ..) (at1 ..) (fz1 ..) (at2 ..) (at2 ..) (fz2 ..) (at3 ..) (at3 ..) (at3 ..) (at3 ..) (at3 ..) (at3 ..) (at3 ..) (at3 ..) (at3 ..) (at3 ..) (fun j => fz3 ..)).mono ?_
  rintro e w5 ⟨rfl, hb, k0, lc, la, lb, g0, g3, g4, g5, g6, g7, g8, g9⟩
  have hsz : w.heap.size + 4 ≤ w5.heap.size := by have := hb.size; simpa using this
  have hbel : Below w.heap.size w w5 := (((((Below.refl _ _).alloc (Nat.le_refl _) _).alloc (by simp) _).alloc (by simp; omega) _).alloc (by simp; omega) _).trans (hb.below (by simp; omega) (fun k h => h.1))
  obtain ⟨gC, capC, _, c1, c2⟩ := lc
  obtain ⟨aoA, nA, capA, hnA, a1, vA⟩ := la.val
  obtain ⟨aoB, nB, capB, hnB, b1, vB⟩ := lb.val
  have VA := hide vA
  have VB := hide vB
  have HB := hide hbel
  have HC : Hid (gC < w5.heap.size) := World.block_lt_of_cell? _ _ c2
  have m0 : w.heap.size < w5.heap.size := by omega
  have m1 : w.heap.size + 1 < w5.heap.size := by omega
  have m2 : w.heap.size + 1 + 1 < w5.heap.size := by omega
  have m3 : w.heap.size + 1 + 1 + 1 < w5.heap.size := by omega
  have m4 := HC.out
  clear hb la lb vA vB hbel hsz
  have k0 : w5.cell? ⟨w.heap.size + 1 + 1, 0, none⟩ = some (.slice a len cap) := k0
  have c1 : w5.cell? ⟨w.heap.size + 1 + 1, 1, none⟩ = some (.slice (some ⟨gC, 0, none⟩) 1 capC) := c1
  have g0 : w5.cell? ⟨w.heap.size + 1 + 1 + 1, 0, none⟩ = some (.int .i64 id) := g0
  have g3 : w5.cell? ⟨w.heap.size + 1 + 1 + 1, 3, none⟩ = some (.iface 32 (.pointer (some ⟨w.heap.size + 1 + 1, 0, none⟩))) := g3
  have g4 : w5.cell? ⟨w.heap.size + 1 + 1 + 1, 4, none⟩ = some (.bool retA) := g4
  have g5 : w5.cell? ⟨w.heap.size + 1 + 1 + 1, 5, none⟩ = some (.bool retB) := g5
  have pA := sent_plain retA payA
  have pB := sent_plain retB payB
  obtain ⟨sA, eA⟩ : ∃ sA, sA = sentOf retA payA := ⟨_, rfl⟩
  obtain ⟨sB, eB⟩ : ∃ sB, sB = sentOf retB payB := ⟨_, rfl⟩
  rw [← eA] at g6 pA
  rw [← eB] at g8 pB
  have g6 : w5.cell? ⟨w.heap.size + 1 + 1 + 1, 6, none⟩ = some sA := g6
  have g7 : w5.cell? ⟨w.heap.size + 1 + 1 + 1, 7, none⟩ = some .nilFunc := g7
  have g8 : w5.cell? ⟨w.heap.size + 1 + 1 + 1, 8, none⟩ = some sB := g8
  have g9 : w5.cell? ⟨w.heap.size + 1 + 1 + 1, 9, none⟩ = some .nilFunc := g9
  have EA := hide eA
  have EB := hide eB
  have PA := hide pA
  have PB := hide pB
  clear eA eB pA pB
  have qA := neq_plain sA PA.out
  have qB := neq_plain sB PB.out
  have qN := neq_plain .nilIface (Or.inl rfl)
  have zA := fun x y => neq_guard x y sA PA.out
  have zB := fun x y => neq_guard x y sB PB.out
  have zN := fun x y => neq_guard x y .nilIface (Or.inl rfl)
  have qF : ∀ w, (binOp .neq 40 .nilFunc .nilFunc).run Yba.prog w = .ok (.bool false) w := fun _ => by kernel_rfl
  have qG : ∀ f x c w, (binOp .eql 40 (.func f x c) .nilFunc).run Yba.prog w = .ok (.bool false) w := fun _ _ _ _ => by kernel_rfl
  go_wp2_with (first | (go_at_call_of 9 (Value.bool retA); refine (log_any _ _ _ _ (VA.out.alloc _)).mono ?_; rintro e w' ⟨rfl, rfl⟩) | (go_at_call_of 9 (Value.bool retB); refine (log_any _ _ _ _ (VB.out.alloc _)).mono ?_; rintro e w' ⟨rfl, rfl⟩) | (go_at_call_of 10 (Value.bool retA); refine (want_any retA payA sA EA.out _).mono ?_; rintro e w' ⟨rfl, rfl⟩) | (go_at_call_of 10 (Value.bool retB); refine (want_any retB payB sB EB.out _).mono ?_; rintro e w' ⟨rfl, rfl⟩))
  clear c2 g0 g4 g5 qF qG EA EB VA VB HC
  have o1 : (w5.alloc (.cells #[.nilIface, .func (.func 15) #[.pointer (some ⟨w.heap.size + 3, 0, none⟩)] #[]] 42)).cell? ⟨w5.heap.size, 1, none⟩ = some (.func (.func 15) #[.pointer (some ⟨w.heap.size + 3, 0, none⟩)] #[]) := by simp
  have hbel : Below w5.heap.size w5 (w5.alloc (.cells #[.nilIface, .func (.func 15) #[.pointer (some ⟨w.heap.size + 3, 0, none⟩)] #[]] 42)) := (Below.refl _ _).alloc (Nat.le_refl _) _
  have hs6 : w5.heap.size < (w5.alloc (.cells #[.nilIface, .func (.func 15) #[.pointer (some ⟨w.heap.size + 3, 0, none⟩)] #[]] 42)).heap.size := by simp
  generalize w5.alloc (.cells #[.nilIface, .func (.func 15) #[.pointer (some ⟨w.heap.size + 3, 0, none⟩)] #[]] 42) = w6 at *
  have H5 := hide hbel
  have HS := hide hs6
  clear hbel hs6
  go_loopw [22] (fun i wr => ∃ j : Nat, j ≤ len ∧ i = .int .i64 j ∧ Below w6.heap.size w6 wr) (fun i _ => len - (intOf i).toNat)
  case atStart => exact ⟨0, Nat.zero_le _, rfl, Below.refl _ _⟩
  case round =>
    obtain ⟨j, hj, rfl, hw⟩ := hrel
    have H6 := hide hw
    clear hw
    have lift : ∀ {b o : Nat} {v : Value}, b < w5.heap.size → w5.cell? ⟨b, o, none⟩ = some v → wr.cell? ⟨b, o, none⟩ = some v := fun h1 h2 =>
      (H6.out.cell (Nat.lt_trans h1 HS.out)).trans ((H5.out.cell h1).trans h2)
    have o1r : wr.cell? ⟨w5.heap.size, 1, none⟩ = some (.func (.func 15) #[.pointer (some ⟨w.heap.size + 3, 0, none⟩)] #[]) := (H6.out.cell HS.out).trans o1
    have g3r := lift m3 g3
    have k0r := lift m2 k0
    by_cases hlt : j < len
    · obtain ⟨b, off, z, ha, hz, z0, z1⟩ := HF.out j hlt
      have hzr : wr.cell? ⟨b, off + j, none⟩ = some (.int .u8 z) := lift (Nat.lt_trans (World.block_lt_of_cell? _ _ hz) m0) ((HB.out.cell (World.block_lt_of_cell? _ _ hz)).trans hz)
      subst ha
      have g6r := lift m3 g6
      have g7r := lift m3 g7
      have g8r := lift m3 g8
      have g9r := lift m3 g9
      clear g3 k0 g6 g7 g8 g9 c1 a1 b1 hz o1 lift
      obtain h | h | h : z % 3 = 0 ∨ z % 3 = 1 ∨ z % 3 = 2 := by omega
      · have HV : Hid (faceOf sA sB z = sA) := by unfold Hid faceOf; rw [if_pos h]
        go_wp2_with (go_at_call 15; refine (face_in w.heap.size sA sB PA.out PB.out b off len cap j z _ hlt k0r hzr z0 z1 g3r g6r g7r g8r g9r).mono ?_; rintro e w7 ⟨rfl, hb7⟩; rw [HV.out])
        go_roundw
        case rel => exact ⟨j + 1, by omega, by go_num, H6.out.trans (hb7.mono H6.out.size)⟩
        case measure => simp [intOf]; omega
      · have HV : Hid (faceOf sA sB z = sB) := by unfold Hid faceOf; rw [if_neg (by omega), if_pos h]
        go_wp2_with (go_at_call 15; refine (face_in w.heap.size sA sB PA.out PB.out b off len cap j z _ hlt k0r hzr z0 z1 g3r g6r g7r g8r g9r).mono ?_; rintro e w7 ⟨rfl, hb7⟩; rw [HV.out])
        go_roundw
        case rel => exact ⟨j + 1, by omega, by go_num, H6.out.trans (hb7.mono H6.out.size)⟩
        case measure => simp [intOf]; omega
      · have HV : Hid (faceOf sA sB z = .nilIface) := by unfold Hid faceOf; rw [if_neg (by omega), if_neg (by omega)]
        go_wp2_with (go_at_call 15; refine (face_in w.heap.size sA sB PA.out PB.out b off len cap j z _ hlt k0r hzr z0 z1 g3r g6r g7r g8r g9r).mono ?_; rintro e w7 ⟨rfl, hb7⟩; rw [HV.out])
        go_roundw
        case rel => exact ⟨j + 1, by omega, by go_num, H6.out.trans (hb7.mono H6.out.size)⟩
        case measure => simp [intOf]; omega
    · obtain rfl : j = len := by omega
      have hb6 : Below w.heap.size w wr := (HB.out.trans (H5.out.mono (Nat.le_of_lt m0))).trans (H6.out.mono (Nat.le_of_lt (Nat.lt_trans m0 HS.out)))
      have HB6 := hide hb6
      have c1r := lift m2 c1
      have a1r := lift m0 a1
      have b1r := lift m1 b1
      have s0 : w.heap.size < wr.heap.size := Nat.lt_of_lt_of_le (Nat.lt_trans m0 HS.out) H6.out.size
      have s1 : w.heap.size + 1 < wr.heap.size := Nat.lt_of_lt_of_le (Nat.lt_trans m1 HS.out) H6.out.size
      have s2 : w.heap.size + 1 + 1 < wr.heap.size := Nat.lt_of_lt_of_le (Nat.lt_trans m2 HS.out) H6.out.size
      clear hb6 g3 k0 g6 g7 g8 g9 c1 a1 b1 o1 lift
      go_wp2_with (go_at_call 15; refine (face_out w.heap.size a j cap _ k0r g3r).mono ?_; rintro e w7 ⟨rfl, hb7⟩; have c1s := (hb7.cell (p := ⟨w.heap.size + 1 + 1, 1, none⟩) s2).trans c1r; have a1s := (hb7.cell (p := ⟨w.heap.size, 1, none⟩) s0).trans a1r; have b1s := (hb7.cell (p := ⟨w.heap.size + 1, 1, none⟩) s1).trans b1r)
      go_ret
      exact ⟨rfl, HB6.out.trans (hb7.mono (Nat.le_of_lt s0))⟩
end Go.Proofs.Ybulkcawk.PB
