import Derived.Test.YbulkcawkDoorStart
namespace Go.Proofs.YbulkcawkDoor.D
open Go.RowKit

/-- what the first k targets bring into the union -/
def Un (g : T.Gr) (ts : Nat → Nat) (k i : Nat) : Prop := g.here i = true ∧ ∃ j, j < k ∧ g.here (ts j) = true ∧ T.Reach g (ts j) i

/-- the walk came to just the union -/
theorem un_rank {g : T.Gr} {rank small : Nat → Int} {ranked tn i : Nat} {ts : Nat → Nat} (hC : T.Core g rank small ranked []) (hV : T.Vis g rank (fun u => ∃ j, j < tn ∧ u = ts j)) (hR : ∀ j, j < tn → rank (ts j) ≠ 0) (hts : ∀ j, j < tn → ts j < g.n) (hi : i < g.n) (hh : g.here i = true) : Un g ts tn i ↔ rank i ≠ 0 := by
  constructor
  · rintro ⟨_, j, hj, _, r⟩
    have h0 := core_mx hC (hts j hj) (hR j hj)
    have := T.Reach.closed (fun v => v < g.n ∧ rank v = T.MX) (fun v y hv e => ⟨e.2.1, (hC.done v hv.1 hv.2).2 y e⟩) ⟨hts j hj, h0.1⟩ r
    rw [this.2]; decide
  · intro h0
    obtain ⟨z, ⟨j, hj, rfl⟩, r⟩ := hV i hi hh h0
    refine ⟨hh, j, hj, ?_, r⟩
    by_cases e : g.here (ts j) = true
    · exact e
    · have := reach_not (by simpa using e) r
      rw [this] at hh
      exact absurd hh e

theorem un_skip {g : T.Gr} {ts : Nat → Nat} {k i : Nat} (hh : g.here (ts k) = false) : Un g ts (k + 1) i ↔ Un g ts k i := by
  constructor
  · rintro ⟨h1, j, hj, h2, r⟩
    refine ⟨h1, j, ?_, h2, r⟩
    by_cases e : j = k
    · subst e; rw [hh] at h2; cases h2
    · omega
  · rintro ⟨h1, j, hj, h2, r⟩
    exact ⟨h1, j, by omega, h2, r⟩

theorem un_add {g : T.Gr} {ts : Nat → Nat} {k i : Nat} (hh : g.here (ts k) = true) : Un g ts (k + 1) i ↔ Un g ts k i ∨ (g.here i = true ∧ T.Reach g (ts k) i) := by
  constructor
  · rintro ⟨h1, j, hj, h2, r⟩
    by_cases e : j = k
    · subst e; exact Or.inr ⟨h1, r⟩
    · exact Or.inl ⟨h1, j, by omega, h2, r⟩
  · rintro (⟨h1, j, hj, h2, r⟩ | ⟨h1, r⟩)
    · exact ⟨h1, j, by omega, h2, r⟩
    · exact ⟨h1, k, by omega, hh, r⟩

/-- the union's row behind k targets -/
structure L1 (w3 : World) (g : T.Gr) (ts : Nat → Nat) (k : Nat) (un : Nat → Bool) (wr : World) : Prop where
  bel : Below w3.heap.size w3 wr
  row : wr.rowIs w3.heap.size 4 g.n (fun j => .bool (un j))
  says : ∀ i, i < g.n → (un i = true ↔ Un g ts k i)

theorem L1.start (w3 : World) (g : T.Gr) (ts : Nat → Nat) : L1 w3 g ts 0 (fun _ => false) (w3.alloc (.cells (madeCells #[.bool false] g.n) 4)) :=
  { bel := (Below.refl _ _).alloc (Nat.le_refl _) _, row := World.rowIs_made w3 (.bool false) g.n 4, says := fun i _ => ⟨(fun h => by cases h), fun ⟨_, j, hj, _⟩ => absurd hj (Nat.not_lt_zero _)⟩ }

theorem L1.skip {w3 : World} {g : T.Gr} {ts : Nat → Nat} {k : Nat} {un : Nat → Bool} {wr : World} (h : L1 w3 g ts k un wr) (hh : g.here (ts k) = false) : L1 w3 g ts (k + 1) un wr :=
  { bel := h.bel, row := h.row, says := fun i hi => (h.says i hi).trans (un_skip hh).symm }

/-- while one target's marks go into it -/
structure L2 (w3 : World) (g : T.Gr) (un seen : Nat → Bool) (sb i : Nat) (wr : World) : Prop where
  bel : Below w3.heap.size w3 wr
  lt : w3.heap.size < sb
  row : wr.rowIs w3.heap.size 4 g.n (fun j => .bool (un j || (decide (j < i) && (seen j && g.here j))))
  srow : wr.rowIs sb 4 g.n (fun j => .bool (seen j))

theorem L2.start {w3 : World} {g : T.Gr} {ts : Nat → Nat} {k : Nat} {un seen : Nat → Bool} {wr w4 : World} (h : L1 w3 g ts k un wr) (hb : Below wr.heap.size wr w4) (hs : w4.rowIs wr.heap.size 4 g.n (fun j => .bool (seen j))) : L2 w3 g un seen wr.heap.size 0 w4 :=
  { bel := h.bel.trans (hb.mono h.bel.size), lt := h.row.lt, row := (h.row.of_block (hb.block _ h.row.lt)).congr (fun j _ => by simp), srow := hs }

theorem L2.skip {w3 : World} {g : T.Gr} {un seen : Nat → Bool} {sb i : Nat} {wr : World} (h : L2 w3 g un seen sb i wr) (hh : (seen i && g.here i) = false) : L2 w3 g un seen sb (i + 1) wr :=
  { bel := h.bel, lt := h.lt, srow := h.srow, row := h.row.congr (fun j _ => by
      by_cases e : j = i
      · subst e; simp [hh]
      · by_cases e2 : j < i
        · simp [e2, show j < i + 1 by omega]
        · simp [e2, show ¬ j < i + 1 by omega]) }

theorem L2.mark {w3 : World} {g : T.Gr} {un seen : Nat → Bool} {sb i : Nat} {wr : World} (h : L2 w3 g un seen sb i wr) (hh : (seen i && g.here i) = true) : L2 w3 g un seen sb (i + 1) (wr.setCell ⟨w3.heap.size, i, none⟩ (.bool true)) :=
  { bel := h.bel.setCell (Nat.le_refl _) _, lt := h.lt, srow := h.srow.of_block (Below.heap_setCell _ _ _ _ (by have := h.lt; show sb ≠ w3.heap.size; omega)), row := (h.row.set i (.bool true)).congr (fun j _ => by
      by_cases e : j = i
      · subst e; simp [hh]
      · by_cases e2 : j < i
        · simp [e, e2, show j < i + 1 by omega]
        · simp [e, e2, show ¬ j < i + 1 by omega]) }

theorem L2.whole {w3 : World} {g : T.Gr} {ts : Nat → Nat} {k : Nat} {un seen : Nat → Bool} {sb : Nat} {wr wr' : World} (h : L2 w3 g un seen sb g.n wr) (h1 : L1 w3 g ts k un wr') (hh : g.here (ts k) = true) (hs : ∀ v, v < g.n → (seen v = true ↔ T.Reach g (ts k) v)) : L1 w3 g ts (k + 1) (fun j => un j || (seen j && g.here j)) wr :=
  { bel := h.bel, row := h.row.congr (fun j hj => by simp [hj]), says := fun i hi => by
      rw [un_add hh, ← h1.says i hi, ← hs i hi]
      simp [and_comm] }

/-- behind the union -/
structure L3 (w3 : World) (p : GP) (g : T.Gr) (rank : Nat → Int) (ranked : Nat) (un : Nat → Bool) (wr : World) : Prop where
  bel : Below w3.heap.size w3 wr
  dy : ∃ small pv fv, Dy wr p g.n rank small (ranked : Nat) pv fv
  st : Stat wr p g
  row : wr.rowIs w3.heap.size 4 g.n (fun j => .bool (un j))

theorem L3.start {w3 : World} {g : T.Gr} {p : GP} {ts : Nat → Nat} {k : Nat} {rank small : Nat → Int} {ranked : Nat} {pv fv : Value} {un : Nat → Bool} {wr : World} (h : L1 w3 g ts k un wr) (hd : Dy w3 p g.n rank small (ranked : Nat) pv fv) (hs : Stat w3 p g) : L3 w3 p g rank ranked un wr := by
  have h1 := hs.gB; have h2 := hs.nB; have h3 := hs.sz
  exact { bel := h.bel, dy := ⟨small, pv, fv, hd.but (S := fun _ => False) (But.ofBelow h.bel) id id (by omega) (by omega)⟩, st := hs.but (But.ofBelow h.bel), row := h.row }

theorem L3.drew {w3 : World} {g : T.Gr} {p : GP} {rank : Nat → Int} {ranked : Nat} {un : Nat → Bool} {wr : World} (h : L3 w3 p g rank ranked un wr) : L3 w3 p g rank ranked un wr.drew := by
  obtain ⟨small, pv, fv, hd⟩ := h.dy
  exact { bel := h.bel.drew, dy := ⟨small, pv, fv, hd.drew⟩, st := h.st.but (But.refl _ _).drew, row := h.row.of_block rfl }

/-- how many of the first k nodes the walk came to -/
def upto (g : T.Gr) (rank : Nat → Int) (k : Nat) : Nat := (List.range k).countP (fun v => g.here v && rank v != 0)

theorem upto_succ (g : T.Gr) (rank : Nat → Int) (k : Nat) : upto g rank (k + 1) = upto g rank k + if (g.here k && rank k != 0) = true then 1 else 0 := by
  unfold upto
  rw [List.range_succ, List.countP_append, List.countP_cons]
  simp

theorem upto_le (g : T.Gr) (rank : Nat → Int) (k : Nat) : upto g rank k ≤ k := by
  unfold upto
  have := List.countP_le_length (p := fun v => g.here v && rank v != 0) (l := List.range k)
  simpa using this
/-- the messages' own copies read as the sets that came in -/
theorem L3.ids {w3 : World} {g : T.Gr} {p : GP} {rank : Nat → Int} {ranked : Nat} {un : Nat → Bool} {wr : World} (h : L3 w3 p g rank ranked un wr) {i l : Nat} {f : Nat → Int} (hi : i < g.n) (hh : g.here i = true) (he : g.ids i = (List.range l).map f) : p.ll i = l ∧ IRow .i32 wr (p.la i) l f := by
  obtain ⟨h1, h2⟩ := (h.st.mids i hi hh).1
  have hl : p.ll i = l := by rw [← h1, he]; simp
  refine ⟨hl, fun j hj => ?_⟩
  obtain ⟨b, off, e, _, hc⟩ := h2 j (by omega)
  refine ⟨b, off, e, ?_⟩
  rw [hc, he]
  simp [List.getD_eq_getElem?_getD, hj]

/-- what loop 3 reads of node i -/
structure At (p : GP) (g : T.Gr) (rank : Nat → Int) (ranked i ub : Nat) (u : Bool) (wr : World) : Prop where
  c1 : wr.cell? ⟨p.gb, 1, none⟩ = some (.slice (some ⟨p.nb, 0, none⟩) g.n g.n)
  rk : wr.cell? ⟨p.nb, i * 2, none⟩ = some (.int .i32 (rank i))
  un : wr.cell? ⟨ub, i, none⟩ = some (.bool u)
  c0 : wr.cell? ⟨p.gb, 0, none⟩ = some (.slice (some ⟨p.sb, 0, none⟩) g.n g.n)
  sent : g.here i = true → wr.cell? ⟨p.sb, i, none⟩ = some (.pointer (some ⟨p.mb i, 0, none⟩))
  lis : g.here i = true → wr.cell? ⟨p.mb i, 1, none⟩ = some (.slice (p.la i) (p.ll i) (p.lc i))

theorem L3.at {w3 : World} {g : T.Gr} {p : GP} {rank : Nat → Int} {ranked : Nat} {un : Nat → Bool} {wr : World} (h : L3 w3 p g rank ranked un wr) {i : Nat} (hi : i < g.n) : At p g rank ranked i w3.heap.size (un i) wr := by
  obtain ⟨small, pv, fv, hd⟩ := h.dy
  exact { c1 := hd.c1, rk := hd.rk i hi, un := h.row.cell hi, c0 := hd.c0, sent := fun hh => by rw [h.st.sent i hi, if_pos hh], lis := h.st.mlis i hi }
end Go.Proofs.YbulkcawkDoor.D
