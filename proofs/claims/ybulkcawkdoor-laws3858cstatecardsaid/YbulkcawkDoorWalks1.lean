import Derived.Test.YbulkcawkDoorProg
import Derived.Test.YbulkcawkDoorPlain2
import Derived.WalkKit
import Derived.WalkSmall
import Derived.Deep.QuietTactic
import Derived.BigQuiet
namespace Go.Proofs.YbulkcawkDoor.D
open Go.RowKit

theorem hide {p : Prop} (h : p) : Hid p := h
theorem ret_bool {a b : Bool} (h : a = b) : Ending.returned (.bool a) = .returned (.bool b) := by rw [h]
theorem ret_int {k : IntKind} {a b : Int} (h : a = b) : Ending.returned (.int k a) = .returned (.int k b) := by rw [h]

/-- a slice of integers: 'f j' is its element j -/
def IRow (k : IntKind) (w : World) (a : Option Addr) (n : Nat) (f : Nat → Int) : Prop :=
  ∀ j, j < n → ∃ b off, a = some ⟨b, off, none⟩ ∧ w.cell? ⟨b, off + j, none⟩ = some (.int k (f j))

def BRow (w : World) (a : Option Addr) (n : Nat) (f : Nat → Bool) : Prop :=
  ∀ j, j < n → ∃ b off, a = some ⟨b, off, none⟩ ∧ w.cell? ⟨b, off + j, none⟩ = some (.bool (f j))

/-- the keeping of what was there -/
def Keep (w w' : World) : Prop := ∀ p v, w.cell? p = some v → w'.cell? p = some v

theorem Keep.refl (w : World) : Keep w w := fun _ _ h => h
theorem Keep.trans {a b c : World} (h : Keep a b) (k : Keep b c) : Keep a c := fun p v hp => k p v (h p v hp)
theorem Keep.below {w w' : World} (hb : Below w.heap.size w w') : Keep w w' := fun p _ hp => (hb.cell (World.block_lt_of_cell? _ p hp)).trans hp

theorem IRow.keep {k : IntKind} {w w' : World} {a : Option Addr} {n : Nat} {f : Nat → Int} (h : IRow k w a n f) (hb : Keep w w') : IRow k w' a n f := fun j hj => by
  obtain ⟨b, off, h1, h2⟩ := h j hj
  exact ⟨b, off, h1, hb _ _ h2⟩

theorem BRow.keep {w w' : World} {a : Option Addr} {n : Nat} {f : Nat → Bool} (h : BRow w a n f) (hb : Keep w w') : BRow w' a n f := fun j hj => by
  obtain ⟨b, off, h1, h2⟩ := h j hj
  exact ⟨b, off, h1, hb _ _ h2⟩

/-- the listen sets as they came in: row i's slice and its ids -/
structure Lst where
  a : Nat → Option Addr
  l : Nat → Nat
  c : Nat → Nat
  id : Nat → Nat → Int

def LRow (w : World) (a : Option Addr) (m : Nat) (q : Lst) : Prop :=
  ∀ i, i < m → (∃ b off, a = some ⟨b, off, none⟩ ∧ w.cell? ⟨b, off + i, none⟩ = some (.slice (q.a i) (q.l i) (q.c i))) ∧ (q.a i = none → q.l i = 0 ∧ q.c i = 0) ∧ q.l i ≤ 35184372088832 ∧
    IRow .i32 w (q.a i) (q.l i) (q.id i) ∧ ∀ j, j < q.l i → -2147483648 ≤ q.id i j ∧ q.id i j ≤ 2147483647

theorem LRow.keep {w w' : World} {a : Option Addr} {m : Nat} {q : Lst} (h : LRow w a m q) (hb : Keep w w') : LRow w' a m q := fun i hi => by
  obtain ⟨⟨b, off, h1, h2⟩, h3, h4, h5, h6⟩ := h i hi
  exact ⟨⟨b, off, h1, hb _ _ h2⟩, h3, h4, h5.keep hb, h6⟩

/-- is process i absent? -/
def absB (bs : Nat → Bool) (m i : Nat) : Bool := decide (i < m) && bs i

theorem absent_any (a : Option Addr) (m c : Nat) (bs : Nat → Bool) (i : Nat) (x : Int) (w : World) (hx : x = (i : Int)) (h : BRow w a m bs) :
    Calls Ybad.prog 10 #[.slice a m c, .int .i64 x] w fun e w' => e = .returned (.bool (absB bs m i)) ∧ w' = w := by
  subst hx
  by_cases hlt : i < m
  · obtain ⟨b, off, rfl, hc⟩ := h i hlt
    have HB : Hid (absB bs m i = bs i) := by unfold Hid absB; simp [hlt]
    clear h
    go_enter Ybad.func10, Ybad.ntmps10
    go_wp2
    go_ret
    exact ⟨ret_bool HB.out.symm, rfl⟩
  · have HB : Hid (absB bs m i = false) := by unfold Hid absB; simp [hlt]
    clear h
    go_enter Ybad.func10, Ybad.ntmps10
    go_wp2
    go_ret
    exact ⟨ret_bool HB.out.symm, rfl⟩

/-- the value that a process counts with -/
def conV (vs : Nat → Int) (bs : Nat → Bool) (m i : Nat) : Int := if absB bs m i then T.MX else vs i

theorem contrib_any (av ab : Option Addr) (n cv m cb : Nat) (vs : Nat → Int) (bs : Nat → Bool) (i : Nat) (x : Int) (w : World) (hx : x = (i : Int)) (hi : i < n) (hv : IRow .i32 w av n vs) (hb : BRow w ab m bs) (hg : w.cell? ⟨0, 1, none⟩ = some (.int .i32 2147483647)) :
    Calls Ybad.prog 13 #[.slice av n cv, .slice ab m cb, .int .i64 x] w fun e w' => e = .returned (.int .i32 (conV vs bs m i)) ∧ w' = w := by
  subst hx
  obtain ⟨b, off, rfl, hc⟩ := hv i hi
  have HB := hide hb
  clear hv hb
  obtain ⟨p, hp⟩ : ∃ p, p = absB bs m i := ⟨_, rfl⟩
  have HC : Hid (conV vs bs m i = if p then T.MX else vs i) := by unfold Hid conV; rw [hp]
  have HP := hide hp
  clear hp
  cases p
  · go_enter Ybad.func13, Ybad.ntmps13
    go_wp2_with (go_at_call 10; refine (absent_any ab m cb bs i _ _ rfl HB.out).mono ?_; rintro e w' ⟨rfl, rfl⟩; rw [← HP.out])
    go_ret
    exact ⟨ret_int HC.out.symm, rfl⟩
  · go_enter Ybad.func13, Ybad.ntmps13
    go_wp2_with (go_at_call 10; refine (absent_any ab m cb bs i _ _ rfl HB.out).mono ?_; rintro e w' ⟨rfl, rfl⟩; rw [← HP.out])
    go_ret
    exact ⟨ret_int HC.out.symm, rfl⟩

/-- how many ids there are in the first i listen sets -/
def total (q : Lst) : Nat → Nat
  | 0 => 0
  | i + 1 => total q i + q.l i

theorem guard_no (av al : Option Addr) (n cv m cl t ct : Nat) (at' : Option Addr) (q : Lst) (w : World) (hn : n ≤ 300) (ht : t ≤ 300) (hl : LRow w al m q) :
    Calls Ybad.prog 5 #[.slice av n cv, .slice al m cl, .slice at' t ct] w fun e w' => e = .returned (.bool (decide (4096 < total q (min m n)))) ∧ w' = w := by
  have HL := hide hl
  clear hl
  have hb : ∀ i, i ≤ m → i ≤ 300 → total q i ≤ i * 35184372088832 := by
    intro i
    induction i with
    | zero => intro _ _; simp [total]
    | succ i ih =>
      intro h1 h2
      have := ih (by omega) (by omega)
      have := (HL.out i (by omega)).2.2.1
      simp only [total]; omega
  have HT := hide hb
  clear hb
  go_enter Ybad.func5, Ybad.ntmps5
  go_wp2
  go_loop [7, 8] (fun s i => ∃ k : Nat, k ≤ m ∧ k ≤ n ∧ i = .int .i64 k ∧ s = .int .i64 (total q k)) (fun _ i => n - (intOf i).toNat)
  case atStart => exact ⟨0, Nat.zero_le _, Nat.zero_le _, rfl, rfl⟩
  case round =>
    obtain ⟨k, hk1, hk2, rfl, rfl⟩ := hrel
    have hT := HT.out k hk1 (by omega)
    have hT2 : total q k ≤ 10555311626649600 := by omega
    clear hT
    by_cases h1 : k < m
    · by_cases h2 : k < n
      · obtain ⟨⟨b, off, e, hc⟩, _, hl, _, _⟩ := HL.out k h1
        subst e
        have HS : Hid (total q (k + 1) = total q k + q.l k) := rfl
        go_wp2
        go_round
        case rel => exact ⟨k + 1, by omega, by omega, by go_num, by rw [HS.out]; go_num⟩
        case measure => simp [intOf]; omega
      · have HM : Hid (min m n = k) := by unfold Hid; omega
        go_wp2
        go_ret
        exact ⟨ret_bool (by rw [HM.out, decide_eq_decide]; omega), rfl⟩
    · have HM : Hid (min m n = k) := by unfold Hid; omega
      go_wp2
      go_ret
      exact ⟨ret_bool (by rw [HM.out, decide_eq_decide]; omega), rfl⟩

theorem guard_big (av al : Option Addr) (n cv m cl t ct : Nat) (at' : Option Addr) (w : World) (h : 300 < n ∨ 300 < t) :
    Calls Ybad.prog 5 #[.slice av n cv, .slice al m cl, .slice at' t ct] w fun e w' => e = .returned (.bool true) ∧ w' = w := by
  by_cases h1 : 300 < n
  · clear h
    go_enter Ybad.func5, Ybad.ntmps5
    go_wp2
    go_ret
    exact ⟨rfl, rfl⟩
  · have h2 : 300 < t := by omega
    clear h
    go_enter Ybad.func5, Ybad.ntmps5
    go_wp2
    go_ret
    exact ⟨rfl, rfl⟩
end Go.Proofs.YbulkcawkDoor.D
