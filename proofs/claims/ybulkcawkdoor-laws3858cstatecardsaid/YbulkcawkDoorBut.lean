import Derived.WalkKit
/- 'But S w w'': but for the blocks of S, every block of w is in w' as it was; new blocks may have come. -/
namespace Go.Proofs.YbulkcawkDoor.D
open Go.RowKit

theorem cell_same {w : World} {a : Addr} {u : Value} (v : Value) (h : w.cell? a = some u) : (w.setCell a v).cell? a = some v := World.cell?_setCell_same _ _ _ h

theorem cell_other {w : World} {a b : Addr} (v : Value) (h : a ≠ b) : (w.setCell a v).cell? b = w.cell? b := World.cell?_setCell_other _ _ _ _ h

theorem ne_blk {b b' o o' : Nat} (h : b ≠ b') : (⟨b, o, none⟩ : Addr) ≠ ⟨b', o', none⟩ := by intro e; cases e; exact h rfl

theorem cell_off {w : World} {b o o' : Nat} (v : Value) (h : o ≠ o') : (w.setCell ⟨b, o, none⟩ v).cell? ⟨b, o', none⟩ = w.cell? ⟨b, o', none⟩ := cell_other v (by intro e; cases e; exact h rfl)

theorem cell_blk {w : World} {b b' o o' : Nat} (v : Value) (h : b ≠ b') : (w.setCell ⟨b, o, none⟩ v).cell? ⟨b', o', none⟩ = w.cell? ⟨b', o', none⟩ := cell_other v (by intro e; cases e; exact h rfl)

structure But (S : Nat → Prop) (w w' : World) : Prop where
  os : w'.os = w.os
  tape : w'.tape = w.tape
  output : w'.output = w.output
  size : w.heap.size ≤ w'.heap.size
  block : ∀ k, k < w.heap.size → ¬ S k → w'.heap[k]? = w.heap[k]?

theorem But.refl (S : Nat → Prop) (w : World) : But S w w := ⟨rfl, rfl, rfl, Nat.le_refl _, fun _ _ _ => rfl⟩

theorem But.trans {S : Nat → Prop} {a b c : World} (h : But S a b) (k : But S b c) : But S a c :=
  ⟨k.os.trans h.os, k.tape.trans h.tape, k.output.trans h.output, Nat.le_trans h.size k.size, fun i hi hs => (k.block i (Nat.lt_of_lt_of_le hi h.size) hs).trans (h.block i hi hs)⟩

theorem But.mono {S T : Nat → Prop} {a b : World} (h : But S a b) (hs : ∀ k, k < a.heap.size → S k → T k) : But T a b :=
  ⟨h.os, h.tape, h.output, h.size, fun i hi ht => h.block i hi (fun hk => ht (hs i hi hk))⟩

theorem But.drew {S : Nat → Prop} {a w : World} (h : But S a w) : But S a w.drew := ⟨h.os, h.tape, h.output, h.size, h.block⟩

theorem But.undrew {S : Nat → Prop} {a w : World} (h : But S a.drew w) : But S a w := ⟨h.os, h.tape, h.output, h.size, h.block⟩

theorem But.alloc {S : Nat → Prop} {a w : World} (h : But S a w) (o : Obj) : But S a (w.alloc o) :=
  h.trans ⟨rfl, rfl, rfl, by simp, fun _ hk _ => Below.heap_alloc _ _ _ hk⟩

theorem But.setCell {S : Nat → Prop} {a w : World} (h : But S a w) {p : Addr} (hp : S p.block ∨ a.heap.size ≤ p.block) (u : Value) : But S a (w.setCell p u) :=
  ⟨h.os, h.tape, h.output, by simpa [World.setCell] using h.size, fun i hi hs => by
    rw [Below.heap_setCell]
    · exact h.block i hi hs
    · rintro rfl
      rcases hp with hp | hp
      · exact hs hp
      · omega⟩

theorem But.grown {S : Nat → Prop} {a w w' : World} {row : Option Nat} (h : But S a w) (hg : w.grownBy w' row) (hr : ∀ k, row = some k → S k ∨ a.heap.size ≤ k) : But S a w' :=
  ⟨hg.os.trans h.os, hg.tape.trans h.tape, hg.output.trans h.output, Nat.le_trans h.size hg.size, fun i hi hs =>
    (hg.block i (Nat.lt_of_lt_of_le hi h.size) (fun e => by
      rcases hr i e.symm with hk | hk
      · exact hs hk
      · omega)).trans (h.block i hi hs)⟩

theorem But.below {S : Nat → Prop} {B : Nat} {w w' : World} (h : But S w w') (hB : B ≤ w.heap.size) (hS : ∀ k, S k → B ≤ k) : Below B w w' :=
  ⟨h.os, h.tape, h.output, h.size, fun k hk => h.block k (by omega) (fun hs => by have := hS k hs; omega)⟩

theorem But.ofBelow {S : Nat → Prop} {w w' : World} (h : Below w.heap.size w w') : But S w w' :=
  ⟨h.os, h.tape, h.output, h.size, fun k hk _ => h.block k hk⟩

theorem But.cell {S : Nat → Prop} {w w' : World} (h : But S w w') {p : Addr} (hp : p.block < w.heap.size) (hs : ¬ S p.block) : w'.cell? p = w.cell? p := World.cell?_of_block (w := w) (h.block p.block hp hs)

theorem But.frozen {S : Nat → Prop} {w w' : World} (h : But S w w') {p : Addr} (hp : p.block < w.heap.size) (hs : ¬ S p.block) : w'.frozen? p = w.frozen? p := World.frozen?_of_block (w := w) (h.block p.block hp hs)

/-- a cell that is there, in a block that is kept -/
theorem But.cellSome {S : Nat → Prop} {w w' : World} (h : But S w w') {p : Addr} {v : Value} (hc : w.cell? p = some v) (hs : ¬ S p.block) : w'.cell? p = some v :=
  (h.cell (World.block_lt_of_cell? w p hc) hs).trans hc

end Go.Proofs.YbulkcawkDoor.D
