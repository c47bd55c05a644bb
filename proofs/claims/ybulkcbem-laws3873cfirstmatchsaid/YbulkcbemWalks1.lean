import Derived.Test.YbulkcbemProg
import Derived.WalkKit
import Derived.Laws.EntriesVeiled
namespace Go.Proofs.Ybulkcbem.PE
open Go.RowKit

theorem hide {p : Prop} (h : p) : Hid p := h
theorem ret_bool {a b : Bool} (h : a = b) : Ending.returned (.bool a) = .returned (.bool b) := by rw [h]
theorem ret_int {k : IntKind} {a b : Int} (h : a = b) : Ending.returned (.int k a) = .returned (.int k b) := by rw [h]

/-- the closure: does the sequence begin and end so? -/
theorem test_any (l m e f t : Int) (a : Option Addr) (n c : Nat) (p q : Nat) (w : World) (hp : w.cell? ⟨p, 0, none⟩ = some (.int .i64 f)) (hq : w.cell? ⟨q, 0, none⟩ = some (.int .i64 t)) :
    Calls Yba.prog 20 #[.agg #[.int .i64 l, .int .i64 m, .slice a n c, .int .i64 e], .pointer (some ⟨p, 0, none⟩), .pointer (some ⟨q, 0, none⟩)] w fun x w' => x = .returned (.bool (l == f && e == t)) ∧ Below w.heap.size w w' := by
  have np : p < w.heap.size := World.block_lt_of_cell? _ _ hp
  have nq : q < w.heap.size := World.block_lt_of_cell? _ _ hq
  by_cases h : l = f
  · subst h
    go_enter Yba.func20, Yba.ntmps20
    go_wp2
    go_ret
    exact ⟨ret_bool (by simp), (Below.refl _ _).alloc (Nat.le_refl _) _⟩
  · have h1 : (l == f) = false := by simpa using h
    go_enter Yba.func20, Yba.ntmps20
    go_wp2
    go_ret
    exact ⟨ret_bool (by rw [h1]; rfl), (Below.refl _ _).alloc (Nat.le_refl _) _⟩

/-- the sequences of a slice, four cells each -/
structure Seqs where
  len : Nat → Int
  least : Nat → Int
  sa : Nat → Option Addr
  sl : Nat → Nat
  sc : Nat → Nat
  fin : Nat → Int

def QRow (w : World) (g off n : Nat) (q : Seqs) : Prop :=
  ∀ j, j < n → w.cell? ⟨g, off + j * 4, none⟩ = some (.int .i64 (q.len j)) ∧ w.cell? ⟨g, off + j * 4 + 1, none⟩ = some (.int .i64 (q.least j)) ∧
    w.cell? ⟨g, off + j * 4 + 2, none⟩ = some (.slice (q.sa j) (q.sl j) (q.sc j)) ∧ w.cell? ⟨g, off + j * 4 + 3, none⟩ = some (.int .i64 (q.fin j))

theorem QRow.below {w w' : World} {g off n : Nat} {q : Seqs} (h : QRow w g off n q) (hb : Below w.heap.size w w') : QRow w' g off n q := fun j hj => by
  obtain ⟨h1, h2, h3, h4⟩ := h j hj
  have hg := World.block_lt_of_cell? _ _ h1
  exact ⟨(hb.cell (by exact hg)).trans h1, (hb.cell (by exact hg)).trans h2, (hb.cell (by exact hg)).trans h3, (hb.cell (by exact hg)).trans h4⟩

/-- does sequence j begin at f and end at t? -/
def matchB (q : Seqs) (f t : Int) (j : Nat) : Bool := q.len j == f && q.fin j == t

/-- what slices.IndexFunc answers: the first that matches, else -1 -/
def IsIdx (q : Seqs) (f t : Int) (n : Nat) (r : Int) : Prop :=
  (r = -1 ∧ ∀ j, j < n → matchB q f t j = false) ∨ ∃ k : Nat, r = k ∧ k < n ∧ matchB q f t k = true ∧ ∀ j, j < k → matchB q f t j = false

set_option maxRecDepth 100000 in
theorem index_any (g n c : Nat) (q : Seqs) (f t : Int) (p s : Nat) (w : World) (hn : n ≤ 1024) (hq : QRow w g 0 n q) (hp : w.cell? ⟨p, 0, none⟩ = some (.int .i64 f)) (hs : w.cell? ⟨s, 0, none⟩ = some (.int .i64 t)) :
    Calls Yba.prog 19 #[.slice (some ⟨g, 0, none⟩) n c, .func (.func 20) #[] #[.pointer (some ⟨p, 0, none⟩), .pointer (some ⟨s, 0, none⟩)]] w fun e w' => ∃ r : Int, e = .returned (.int .i64 r) ∧ IsIdx q f t n r ∧ Below w.heap.size w w' := by
  have HQ := hide hq
  have HP := hide hp
  have HS := hide hs
  clear hq hp hs
  go_enter Yba.func19, Yba.ntmps19
  go_wp2
  go_loopw [8] (fun i wr => ∃ k : Nat, k ≤ n ∧ i = .int .i64 k ∧ Hid (∀ j, j < k → matchB q f t j = false) ∧ Hid (Below w.heap.size w wr)) (fun i _ => n - (intOf i).toNat)
  case atStart => exact ⟨0, Nat.zero_le _, rfl, hide (fun j hj => absurd hj (by omega)), hide (Below.refl _ _)⟩
  case round =>
    obtain ⟨k, hk, rfl, HM, HW⟩ := hrel
    by_cases hlt : k < n
    · obtain ⟨c0, c1, c2, c3⟩ := (HQ.out.below HW.out) k hlt
      rw [Nat.zero_add] at c0 c1 c2 c3
      have hp := (HW.out.cell (World.block_lt_of_cell? _ _ HP.out)).trans HP.out
      have hs := (HW.out.cell (World.block_lt_of_cell? _ _ HS.out)).trans HS.out
      obtain ⟨b, hb⟩ : ∃ b, b = matchB q f t k := ⟨_, rfl⟩
      have HB := hide hb
      clear hb
      have HT := hide (test_any (q.len k) (q.least k) (q.fin k) f t (q.sa k) (q.sl k) (q.sc k) p s wr hp hs)
      clear hp hs
      go_wp2_with fail
      refine HT.out.mono ?_
      rintro e w2 ⟨rfl, hb2⟩
      rw [show (q.len k == f && q.fin k == t) = b from HB.out.symm]
      have HW2 := hide (HW.out.trans (hb2.mono HW.out.size))
      clear hb2 HT
      cases b
      · go_wp2
        go_roundw
        case rel => exact ⟨k + 1, by omega, by go_num, hide (fun j hj => by
          by_cases e : j = k
          · subst e; exact HB.out.symm
          · exact HM.out j (by omega)), HW2⟩
        case measure => simp [intOf]; omega
      · go_wp2
        go_ret
        exact ⟨k, rfl, Or.inr ⟨k, rfl, hlt, HB.out.symm, HM.out⟩, HW2.out⟩
    · go_wp2
      go_ret
      exact ⟨-1, rfl, Or.inl ⟨rfl, fun j hj => HM.out j (by omega)⟩, HW.out⟩

theorem index_nil (f : Value) (w : World) : Calls Yba.prog 19 #[.slice none 0 0, f] w fun e w' => e = .returned (.int .i64 (-1)) ∧ w' = w := by
  go_enter Yba.func19, Yba.ntmps19
  go_wp2
  refine wp_loop_rounds 1 ?_
  rw [rounds_succ]
  go_wp2
  go_ret
  exact ⟨rfl, rfl⟩

/-- what sequenceAt answers: a pointer to the first that matches, else nil -/
def IsPtr (q : Seqs) (f t : Int) (n g : Nat) (v : Value) : Prop :=
  (v = .pointer none ∧ ∀ j, j < n → matchB q f t j = false) ∨ ∃ k : Nat, v = .pointer (some ⟨g, k * 4, none⟩) ∧ k < n ∧ matchB q f t k = true ∧ ∀ j, j < k → matchB q f t j = false

set_option maxRecDepth 100000 in
theorem seqAt_any (x y z g n c : Nat) (q : Seqs) (f t : Int) (w : World) (hn : n ≤ 1024) (hq : QRow w g 0 n q) (h1 : w.cell? ⟨x, 1, none⟩ = some (.pointer (some ⟨y, 0, none⟩))) (h2 : w.cell? ⟨y, 0, none⟩ = some (.pointer (some ⟨z, 0, none⟩))) (h3 : w.cell? ⟨z, 4, none⟩ = some (.slice (some ⟨g, 0, none⟩) n c)) :
    Calls Yba.prog 16 #[.pointer (some ⟨x, 0, none⟩), .int .i64 f, .int .i64 t] w fun e w' => ∃ v, e = .returned v ∧ IsPtr q f t n g v ∧ Below w.heap.size w w' := by
  have HQ := hide hq
  have n1 : x < w.heap.size := World.block_lt_of_cell? _ _ h1
  have n2 : y < w.heap.size := World.block_lt_of_cell? _ _ h2
  have n3 : z < w.heap.size := World.block_lt_of_cell? _ _ h3
  clear hq
  go_enter Yba.func16, Yba.ntmps16
  go_wp2_with fail
  refine (index_any g n c q f t w.heap.size (w.heap.size + 1) _ hn ((HQ.out.below ((Below.refl _ _).alloc (Nat.le_refl _) _)).below ((Below.refl _ _).alloc (Nat.le_refl _) _)) (by simp) (by simp)).mono ?_
  rintro e w1 ⟨r, rfl, hr, hb⟩
  have hb1 : Below w.heap.size w w1 := (((Below.refl w.heap.size w).alloc (Nat.le_refl _) _).alloc (by simp) _).trans (hb.mono (by simp; omega))
  have k1 := (hb1.cell (by exact n1)).trans h1
  have k2 := (hb1.cell (by exact n2)).trans h2
  have k3 := (hb1.cell (by exact n3)).trans h3
  have HB := hide hb1
  clear hb hb1 h1 h2 h3
  rcases hr with ⟨rfl, hr⟩ | ⟨k, rfl, hk, hm, hr⟩
  · have HR := hide hr
    clear hr
    go_wp2
    go_ret
    exact ⟨_, rfl, Or.inl ⟨rfl, HR.out⟩, HB.out⟩
  · have HR := hide hr
    have HM := hide hm
    clear hr hm
    go_wp2
    go_ret
    exact ⟨_, rfl, Or.inr ⟨k, rfl, hk, HM.out, HR.out⟩, HB.out⟩

theorem seqAt_nil (x y z : Nat) (f t : Int) (w : World) (h1 : w.cell? ⟨x, 1, none⟩ = some (.pointer (some ⟨y, 0, none⟩))) (h2 : w.cell? ⟨y, 0, none⟩ = some (.pointer (some ⟨z, 0, none⟩))) (h3 : w.cell? ⟨z, 4, none⟩ = some (.slice none 0 0)) :
    Calls Yba.prog 16 #[.pointer (some ⟨x, 0, none⟩), .int .i64 f, .int .i64 t] w fun e w' => e = .returned (.pointer none) ∧ Below w.heap.size w w' := by
  have n1 : x < w.heap.size := World.block_lt_of_cell? _ _ h1
  have n2 : y < w.heap.size := World.block_lt_of_cell? _ _ h2
  have n3 : z < w.heap.size := World.block_lt_of_cell? _ _ h3
  go_enter Yba.func16, Yba.ntmps16
  go_wp2_with (go_at_call 19; refine (index_nil _ _).mono ?_; rintro e w1 ⟨rfl, rfl⟩)
  go_ret
  exact ⟨rfl, ((Below.refl w.heap.size w).alloc (Nat.le_refl _) _).alloc (by simp) _⟩
end Go.Proofs.Ybulkcbem.PE
