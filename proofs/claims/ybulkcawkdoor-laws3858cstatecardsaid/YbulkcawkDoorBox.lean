import Derived.Test.YbulkcawkDoorNew
import Derived.WalkSpells
namespace Go.Proofs.YbulkcawkDoor.D
open Go.RowKit

theorem info20 : (Ybad.prog.info? 20).map (fun i => (i.zero, i.size, i.bytes)) = some (some .nilIface, 1, 16) := by kernel_rfl

/-- the graph that the inputs make -/
def grOf (n : Nat) (vs : Nat → Int) (m : Nat) (q : Lst) (bs : Nat → Bool) (mb : Nat) : T.Gr :=
  { n := n, here := fun i => !absB bs mb i, ids := fun i => if i < m then (List.range (q.l i)).map (q.id i) else [], val := conV vs bs mb }

/-- the first k of it -/
def grK (g : T.Gr) (k : Nat) : T.Gr := { g with here := fun i => decide (i < k) && g.here i }

/-- the inbox while it is filled -/
structure BM (w : World) (g : T.Gr) (p : GP) (k : Nat) (wr : World) : Prop where
  bel : Below w.heap.size w wr
  row : wr.rowIs w.heap.size 20 g.n (fun j => if (grK g k).here j then .iface 45 (.pointer (some ⟨p.mb j, 0, none⟩)) else .nilIface)
  ms : Msgs wr (grK g k) p wr.heap.size
  up : ∀ i, i < g.n → (grK g k).here i = true → w.heap.size < p.mb i ∧ ∀ b off, p.la i = some ⟨b, off, none⟩ → w.heap.size < b

theorem grK_succ {g : T.Gr} {k j : Nat} (h : (grK g (k + 1)).here j = true) : (j = k ∧ g.here k = true) ∨ ((grK g k).here j = true ∧ j ≠ k) := by
  simp only [grK, Bool.and_eq_true, decide_eq_true_eq] at *
  by_cases e : j = k
  · subst e; exact Or.inl ⟨rfl, h.2⟩
  · exact Or.inr ⟨⟨by omega, h.2⟩, e⟩

theorem BM.skip {w wr : World} {g : T.Gr} {p : GP} {k : Nat} (h : BM w g p k wr) (hh : g.here k = false) : BM w g p (k + 1) wr := by
  have e : ∀ j, (grK g (k + 1)).here j = (grK g k).here j := by
    intro j
    simp only [grK]
    by_cases ej : j = k
    · subst ej; simp [hh]
    · by_cases e2 : j < k
      · simp [e2, show j < k + 1 by omega]
      · simp [e2, show ¬ j < k + 1 by omega]
  refine { bel := h.bel, row := h.row.congr (fun j _ => by rw [e j]), ms := ?_, up := fun i hi hi2 => h.up i hi (by rw [← e i]; exact hi2) }
  exact { mlt := fun i hi hi2 => h.ms.mlt i hi (by rw [← e i]; exact hi2), mval := fun i hi hi2 => h.ms.mval i hi (by rw [← e i]; exact hi2), mlis := fun i hi hi2 => h.ms.mlis i hi (by rw [← e i]; exact hi2), mids := fun i hi hi2 => h.ms.mids i hi (by rw [← e i]; exact hi2), mlb := fun i hi hi2 => h.ms.mlb i hi (by rw [← e i]; exact hi2), big := h.ms.big, idw := h.ms.idw }

/-- the list that a message takes -/
structure Took (wr w1 : World) (a : Option Addr) (l c : Nat) (ids : List Int) : Prop where
  bel : Below wr.heap.size wr w1
  ids : Ids w1 w1.heap.size a l ids
  nil : a = none → c = 0
  cap : l ≤ c
  at' : ∀ b off, a = some ⟨b, off, none⟩ → wr.heap.size ≤ b ∧ b < w1.heap.size
  big : l ≤ 4096

theorem BM.send {w wr w1 : World} {g : T.Gr} {p : GP} {k l c : Nat} {a : Option Addr} (h : BM w g p k wr) (hh : g.here k = true) (hk : k < g.n) (ht : Took wr w1 a l c (g.ids k)) :
    BM w g { p with mb := fun j => if j = k then w1.heap.size else p.mb j, la := fun j => if j = k then a else p.la j, ll := fun j => if j = k then l else p.ll j, lc := fun j => if j = k then c else p.lc j } (k + 1)
      ((w1.alloc (.cells #[.int .i32 (g.val k), .slice a l c] 44)).setCell ⟨w.heap.size, k, none⟩ (.iface 45 (.pointer (some ⟨w1.heap.size, 0, none⟩)))) := by
  have hN : w.heap.size < wr.heap.size := h.row.lt
  have h1 := ht.bel.size
  have hbl : Below wr.heap.size wr (w1.alloc (.cells #[.int .i32 (g.val k), .slice a l c] 44)) := ht.bel.alloc h1 _
  have hm0 : (w1.alloc (.cells #[.int .i32 (g.val k), .slice a l c] 44)).cell? ⟨w1.heap.size, 0, none⟩ = some (.int .i32 (g.val k)) := by rw [World.cell?_alloc_new]; rfl
  have hm1 : (w1.alloc (.cells #[.int .i32 (g.val k), .slice a l c] 44)).cell? ⟨w1.heap.size, 1, none⟩ = some (.slice a l c) := by rw [World.cell?_alloc_new]; rfl
  have hids : Ids (w1.alloc (.cells #[.int .i32 (g.val k), .slice a l c] 44)) (w1.heap.size + 1) a l (g.ids k) := ⟨ht.ids.1, fun j hj => by
    obtain ⟨b, off, e1, e2, e3⟩ := ht.ids.2 j hj
    exact ⟨b, off, e1, by omega, (World.cell?_alloc_lt _ _ _ (by exact e2)).trans e3⟩⟩
  have hsz : (w1.alloc (.cells #[.int .i32 (g.val k), .slice a l c] 44)).heap.size = w1.heap.size + 1 := by simp
  have hrow : (w1.alloc (.cells #[.int .i32 (g.val k), .slice a l c] 44)).rowIs w.heap.size 20 g.n (fun j => if (grK g k).here j then .iface 45 (.pointer (some ⟨p.mb j, 0, none⟩)) else .nilIface) := h.row.of_block (hbl.block _ hN)
  generalize w1.alloc (.cells #[.int .i32 (g.val k), .slice a l c] 44) = W at hbl hm0 hm1 hids hsz hrow ⊢
  have off : ∀ b o, b ≠ w.heap.size → (W.setCell ⟨w.heap.size, k, none⟩ (.iface 45 (.pointer (some ⟨w1.heap.size, 0, none⟩)))).cell? ⟨b, o, none⟩ = W.cell? ⟨b, o, none⟩ := fun b o hb => cell_blk _ (Ne.symm hb)
  have hs2 : (W.setCell ⟨w.heap.size, k, none⟩ (.iface 45 (.pointer (some ⟨w1.heap.size, 0, none⟩)))).heap.size = w1.heap.size + 1 := by rw [← hsz]; simp [World.setCell]
  refine { bel := ?_, row := ?_, ms := ?_, up := ?_ }
  · exact Below.setCell (h.bel.trans (Below.mono hbl (Nat.le_of_lt hN))) (Nat.le_refl _) _
  · refine (hrow.set k (.iface 45 (.pointer (some ⟨w1.heap.size, 0, none⟩)))).congr (fun j hj => ?_)
    by_cases e : j = k
    · subst e; simp [grK, hh]
    · simp only [if_neg e, grK]
      by_cases e2 : j < k
      · simp [e2, show j < k + 1 by omega]
      · simp [e2, show ¬ j < k + 1 by omega]
  · refine { mlt := ?_, mval := ?_, mlis := ?_, mids := ?_, mlb := ?_, big := ?_, idw := h.ms.idw }
    · intro i hi hi2
      rw [hs2]
      rcases grK_succ hi2 with ⟨rfl, _⟩ | ⟨h3, e⟩
      · simp only [if_true]; omega
      · simp only [if_neg e]; have := h.ms.mlt i hi h3; omega
    · intro i hi hi2
      rcases grK_succ hi2 with ⟨rfl, _⟩ | ⟨h3, e⟩
      · simp only [if_true]; rw [off _ _ (by omega)]; exact hm0
      · simp only [if_neg e]; rw [off _ _ (by have := (h.up i hi h3).1; omega), hbl.cell (h.ms.mlt i hi h3)]; exact h.ms.mval i hi h3
    · intro i hi hi2
      rcases grK_succ hi2 with ⟨rfl, _⟩ | ⟨h3, e⟩
      · simp only [if_true]; rw [off _ _ (by omega)]; exact hm1
      · simp only [if_neg e]; rw [off _ _ (by have := (h.up i hi h3).1; omega), hbl.cell (h.ms.mlt i hi h3)]; exact h.ms.mlis i hi h3
    · intro i hi hi2
      rw [hs2]
      rcases grK_succ hi2 with ⟨rfl, _⟩ | ⟨h3, e⟩
      · simp only [if_true]
        refine ⟨⟨hids.1, fun j hj => ?_⟩, ht.nil, ht.cap⟩
        obtain ⟨b, o, e1, e2, e3⟩ := hids.2 j hj
        have := ht.at' b o e1
        exact ⟨b, o, e1, e2, by rw [off _ _ (by omega)]; exact e3⟩
      · simp only [if_neg e]
        have hm := h.ms.mids i hi h3
        refine ⟨⟨hm.1.1, fun j hj => ?_⟩, hm.2⟩
        obtain ⟨b, o, e1, e2, e3⟩ := hm.1.2 j hj
        have := (h.up i hi h3).2 b o e1
        exact ⟨b, o, e1, by omega, by rw [off _ _ (by omega), hbl.cell (by exact e2)]; exact e3⟩
    · intro i hi hi2 b o e1
      rw [hs2]
      rcases grK_succ hi2 with ⟨rfl, _⟩ | ⟨h3, e⟩
      · simp only [if_true] at e1; have := ht.at' b o e1; omega
      · simp only [if_neg e] at e1; have := h.ms.mlb i hi h3 b o e1; omega
    · intro i hi
      by_cases e : i = k
      · simp only [if_pos e]; exact ht.big
      · simp only [if_neg e]; exact h.ms.big i hi
  · intro i hi hi2
    rcases grK_succ hi2 with ⟨rfl, _⟩ | ⟨h3, e⟩
    · simp only [if_true]
      refine ⟨by omega, fun b o e1 => ?_⟩
      have := ht.at' b o e1; omega
    · simp only [if_neg e]; exact h.up i hi h3

end Go.Proofs.YbulkcawkDoor.D
